/- The document's share: Ready. The lists fit in memory. -/
import Derived.Test.YtedkjbdkokdgdaaMDocE
namespace Go.Proofs.Ytedkjbdkokdgdaa.Sh
open Go Go.RowKit Go.Proofs.YtedkjbdkokdgdaaW.PrintWords Go.Proofs.YtedkjbdkokdgdaaW.PrintLast Go.Proofs.YtedkjbdkokdgdaaW.PrintMore Go.Proofs.Ytedkjbdkokdgdaa.QL
set_option linter.unusedSimpArgs false
set_option linter.unusedVariables false
set_option maxHeartbeats 2000000
set_option maxRecDepth 100000
theorem rd_map (l : List S50) (f : S50 → Int) {i : Nat} (h : i < l.length) : rd (l.map f) (i : Int) = f (l.getD i z50) := by
  rw [rd_get (by rw [List.length_map]; exact h), List.getElem_map, List.getD_eq_getElem?_getD, List.getElem?_eq_getElem h]
  rfl
theorem int_cell {w : World} {A : Option Addr} {n : Nat} {xs : List Int} (h : Kd.C (Kd.int .i64) w A n xs) (i : Nat) (h1 : i < n) (x : Int) (hx : rd xs (i : Int) = x) : ∃ ad, A = some ad ∧ w.cell? (ad.add i) = some (.int .i64 x) := by
  obtain ⟨ad, e, hc⟩ := Kd.at_int h (i : Int) (by omega) (by omega)
  rw [Int.toNat_natCast, hx] at hc
  exact ⟨ad, e, hc⟩
theorem readyd_calls (q B : Nat) (v : Value) (D : List S72) (m : Int → Qu) (conn : Int) (A : Option Addr) (c : Nat) (A2 : Option Addr) (c2 : Nat) (l : List S50) (w : World) (h : DocAt w q B v D) (hd : DR D m) (hl : (D.length + 1) * 32 ≤ 140737488355328) (hll : l.length ≤ 9223372036854775806) (h1 : Kd.C (Kd.int .i64) w A l.length (l.map (·.f0))) (h2 : Kd.C (Kd.int .i64) w A2 l.length (l.map (·.f1))) :
    Calls Try.prog 32 #[.pointer (some ⟨q, 0, none⟩), .int .i64 conn, .slice A l.length c, .slice A2 l.length c2] w fun e w' => RdyPost m conn l w e w' := by
  have HD := Aside0.mk hd
  have HDL := Aside0.mk hl
  have HLL := Aside0.mk hll
  have HC1 := Aside0.mk h1
  have HC2 := Aside0.mk h2
  obtain ⟨A0, c0, rfl, hc0, hC0⟩ := Kd.R_reads h.row
  have H := Aside0.mk h
  have HC0 := Aside0.mk hC0
  have HB := Aside0.mk (Below.refl w.heap.size w)
  have z0 := blk_cell h.blk 0
  clear h hd hl hll h1 h2 hc0 hC0
  go_enter Try.func32, Try.ntmps32
  go_upto_if 23 with fail
  clear z0
  go_loopw [9, 10] (fun v9 v10 w' => ∃ (i : Nat) (out : List Int), v10 = .int .i64 (i : Int) ∧ Aside0 (i ≤ D.length) ∧ Aside0 (Kd.R (Kd.int .i64) 2 w' w.heap.size (fun _ => True) v9 out) ∧ Aside0 (Got D m conn l i out) ∧ Aside0 (Below w.heap.size w w')) (fun _ v _ => ((D.length : Int) - intOf v).toNat)
  case atStart => exact ⟨0, [], rfl, ⟨Nat.zero_le _⟩, ⟨Kd.R_nil _ _ _ _ _⟩, ⟨Got.start _ _ _ _⟩, HB⟩
  case round =>
    obtain ⟨i, out, rfl, HI, RO, HG, L1⟩ := hrel
    obtain ⟨Ao, co, rfl, hco, hCo⟩ := R_slice_int RO.out
    clear hco hCo
    have H1 := Aside0.mk (H.out.low L1.out)
    have z0 := blk_cell H1.out.blk 0
    by_cases hi : i < D.length
    · have d1 : decide ((i : Int) < (D.length : Int)) = true := decide_eq_true (by omega)
      have d2 : decide (i < D.length) = true := decide_eq_true hi
      have hw1 : wrap64 ((i : Int) + 1) = ((i + 1 : Nat) : Int) := by have := HDL.out; unfold wrap64; omega
      have HIM := Aside0.mk hi
      obtain ⟨x, hx⟩ : ∃ x, D.getD i z72 = x := ⟨_, rfl⟩
      obtain ⟨ad, rfl, x0, x1, x2, x3⟩ := at_T72 (Kd.C_below HC0.out L1.out) i hi x hx
      obtain ⟨id, hid⟩ : ∃ id, x.f0 = id := ⟨_, rfl⟩
      rw [hid] at x0
      have HXD : Aside0 ((D.getD i z72).f0 = id) := ⟨by rw [hx]; exact hid⟩
      have q0 : (0 : Int) ≤ (i : Int) := by omega
      have q1 : (i : Int) < (D.length : Int) := by omega
      have hwl : wrap64 ((l.length : Int) - 1) = (l.length : Int) - 1 := by have := HLL.out; unfold wrap64; omega
      clear x1 x2 x3 hx hid hi
      go_upto_if 38 with fail
      clear x0 z0 d1 d2 q0 q1
      try rw [hwl]
      clear hwl
      go_loopw [12, 13] (fun v12 v13 w' => ∃ j : Nat, v12 = .int .i64 (leftL id (l.drop j)) ∧ v13 = .int .i64 ((j : Int) - 1) ∧ Aside0 (j ≤ l.length) ∧ Aside0 (w' = wr)) (fun _ v _ => (intOf v + 1).toNat)
      case atStart => exact ⟨l.length, by rw [List.drop_length]; rfl, rfl, ⟨Nat.le_refl _⟩, ⟨rfl⟩⟩
      case round =>
        obtain ⟨j, rfl, rfl, HJ, HWW⟩ := hrel
        have HWE := HWW.out
        subst HWE
        cases j with
        | succ n =>
          obtain ⟨s, hs⟩ : ∃ s : Int, ((n + 1 : Nat) : Int) - 1 = s := ⟨_, rfl⟩
          have hsn : s = (n : Int) := by omega
          rw [hs, hsn]
          clear hs hsn s
          have d1 : decide ((0 : Int) ≤ (n : Int)) = true := decide_eq_true (by omega)
          have q0 : (0 : Int) ≤ (n : Int) := by omega
          have q1 : (n : Int) < (l.length : Int) := by have := HJ.out; omega
          have hw2 : wrap64 ((n : Int) - 1) = (n : Int) - 1 := by have := HJ.out; have := HLL.out; unfold wrap64; omega
          obtain ⟨y, hy⟩ : ∃ y, l.getD n z50 = y := ⟨_, rfl⟩
          obtain ⟨a1, rfl, y0⟩ := int_cell (Kd.C_below HC1.out L1.out) n (by omega) y.f0 (by rw [rd_map l (·.f0) (by omega), hy])
          obtain ⟨a2, rfl, y1⟩ := int_cell (Kd.C_below HC2.out L1.out) n (by omega) y.f1 (by rw [rd_map l (·.f1) (by omega), hy])
          have HLD : Aside0 (leftL id (l.drop n) = if y.f0 = id then y.f1 else leftL id (l.drop (n + 1))) := ⟨by rw [leftL_drop id l n (by have := HJ.out; omega), hy]⟩
          obtain ⟨lv, hlv⟩ : ∃ z, leftL id (l.drop (n + 1)) = z := ⟨_, rfl⟩
          have HLV := Aside0.mk hlv
          rw [hlv]
          clear hlv hy
          by_cases he : y.f0 = id
          · have e1 : (y.f0 == id) = true := beq_iff_eq.mpr he
            have HEE := Aside0.mk he
            clear he
            go_wp2_with fail
            go_roundw
            case rel => exact ⟨n, by rw [HLD.out, if_pos HEE.out], congrArg (Value.int .i64) hw2, ⟨by have := HJ.out; omega⟩, ⟨by first | rfl | trivial⟩⟩
            case measure =>
              rw [hw2]
              show ((n : Int) - 1 + 1).toNat < ((n : Int) + 1).toNat
              omega
          · have e1 : (y.f0 == id) = false := beq_eq_false_iff_ne.mpr he
            have HEE := Aside0.mk he
            clear he
            go_wp2_with fail
            go_roundw
            case rel => exact ⟨n, by rw [HLD.out, if_neg HEE.out, HLV.out], congrArg (Value.int .i64) hw2, ⟨by have := HJ.out; omega⟩, ⟨by first | rfl | trivial⟩⟩
            case measure =>
              rw [hw2]
              show ((n : Int) - 1 + 1).toNat < ((n : Int) + 1).toNat
              omega
        | zero =>
          obtain ⟨s, hs⟩ : ∃ s : Int, ((0 : Nat) : Int) - 1 = s := ⟨_, rfl⟩
          have d1 : decide ((0 : Int) ≤ s) = false := decide_eq_false (by omega)
          have d3 : decide ((0 : Int) ≤ ((0 : Nat) : Int) - 1) = false := decide_eq_false (by omega)
          rw [hs]
          clear hs
          rw [List.drop_zero]
          obtain ⟨r, hr⟩ : ∃ r, rdyB (m id) conn (leftL id l) = r := ⟨_, rfl⟩
          have HRR := Aside0.mk hr
          obtain ⟨lv, hlv⟩ : ∃ z, leftL id l = z := ⟨_, rfl⟩
          have HLV := Aside0.mk hlv
          rw [hlv] at hr ⊢
          have HR1 := Aside0.mk hr
          clear hr hlv
          cases r
          · go_wp2_with (go_at_call 35; refine (ready1_calls q B _ D m id conn lv false _ H1.out HD.out HR1.out).mono ?_; rintro e w3 ⟨rfl, hb⟩; have L3 := Aside0.mk (below_then L1.out L1.out.size hb); have RO3 := Aside0.mk (Kd.R_below RO.out hb); clear hb)
            go_roundw
            case rel => exact ⟨i + 1, out, congrArg (Value.int .i64) hw1, ⟨by have := HIM.out; omega⟩, RO3, ⟨HG.out.skip HIM.out (by rw [HXD.out]; exact HRR.out)⟩, L3⟩
            case measure =>
              rw [hw1]
              show ((D.length : Int) - ((i + 1 : Nat) : Int)).toNat < ((D.length : Int) - (i : Int)).toNat
              have := HIM.out
              omega
          · go_upto_if 60 with (go_at_call 35; refine (ready1_calls q B _ D m id conn lv true _ H1.out HD.out HR1.out).mono ?_; rintro e w3 ⟨rfl, hb⟩; have L3 := Aside0.mk (below_then L1.out L1.out.size hb); have RO3 := Aside0.mk (Kd.R_below RO.out hb); clear hb)
            have HFRS : Aside0 (id ∉ out) := ⟨by rw [← HXD.out]; exact HG.out.fresh HD.out HIM.out⟩
            have RO4 : Aside0 (Kd.R (Kd.int .i64) 2 w3 w.heap.size (fun k => k < w3.heap.size) (.slice Ao out.length co) out) := ⟨Kd.R_mono (Kd.R_bound RO3.out) (fun k hk => hk.2.2.1)⟩
            clear RO3 RO
            go_loopw [14, 15, 16] (fun v14 v15 v16 w' => ∃ (k : Nat) (pre : List Int) (done : Bool), v15 = .bool done ∧ v16 = .int .i64 (k : Int) ∧ Aside0 (k ≤ out.length) ∧ Aside0 (Ins id out pre done k) ∧ Aside0 (Kd.R (Kd.int .i64) 2 w' w3.heap.size (fun _ => True) v14 pre) ∧ Aside0 (Kd.R (Kd.int .i64) 2 w' w.heap.size (fun k => k < w3.heap.size) (.slice Ao out.length co) out) ∧ Aside0 (Below w3.heap.size w3 w')) (fun _ _ v _ => ((out.length : Int) - intOf v).toNat)
            case atStart => exact ⟨0, [], false, rfl, rfl, ⟨Nat.zero_le _⟩, ⟨Ins.start _ _⟩, ⟨Kd.R_nil _ _ _ _ _⟩, RO4, ⟨Below.refl _ _⟩⟩
            case round =>
              clear RO4
              obtain ⟨k, pre, done, rfl, rfl, HK, HIN, RP0, RO0, LP0⟩ := hrel
              by_cases hk : k < out.length
              · have d4 : decide ((k : Int) < (out.length : Int)) = true := decide_eq_true (by omega)
                have d5 : decide (k < out.length) = true := decide_eq_true hk
                have hw2 : wrap64 ((k : Int) + 1) = ((k + 1 : Nat) : Int) := by have := HG.out.len; have := HDL.out; have := HI.out; unfold wrap64; omega
                have HKM := Aside0.mk hk
                obtain ⟨y, hy⟩ : ∃ y, out[k] = y := ⟨_, rfl⟩
                have HY := Aside0.mk hy
                have q0 : (0 : Int) ≤ (k : Int) := by omega
                have q1 : (k : Int) < (out.length : Int) := by omega
                obtain ⟨ad, rfl, y0⟩ := int_cell (Kd.R_reads' RO0.out).2.2 k hk y (by rw [rd_get hk]; exact hy)
                have HYC : Aside0 (∀ W, Kd.C (Kd.int .i64) W (some ad) out.length out → W.cell? (ad.add k) = some (.int .i64 y)) := ⟨fun W hC => by
                  obtain ⟨ad', e, h⟩ := int_cell hC k HKM.out y (by rw [rd_get HKM.out]; exact HY.out)
                  injection e with e
                  rw [e]
                  exact h⟩
                clear hy
                cases done
                · by_cases hlt : id < y
                  · have e1 : decide (id < y) = true := decide_eq_true hlt
                    have HI2 : Aside0 (Ins id out (pre ++ [id] ++ [y]) true (k + 1)) := ⟨by have h := HIN.out.put HG.out.sorted HKM.out (by rw [HY.out]; exact hlt); rwa [HY.out] at h⟩
                    clear hlt
                    go_upto_region 21 with ((with_reducible refine gate_builtin (b := .append) (xs := #[.tmp 73, .tmp 75]) rfl ?_); at_builtin; refine Kd.R_append (Kd.int .i64) (w0 := w3) w3.heap.size rfl (.tmp 73) (.tmp 75) 22 2 _ 8 rfl Try.underlying22 info2 rfl (Nat.succ_pos 0) (Nat.succ_pos 7) _ pre id [.int .i64 id] (fun _ => True) (fun _ => False) rfl rfl rfl (fun _ h => h.elim) (fun _ _ => trivial) RP0.out LP0.out LP0.out.size (by have := HIN.out.len; have := HG.out.len; have := HIM.out; have := HDL.out; have := HI.out; have := HK.out; (try simp only [List.length_append, List.length_singleton]); omega) ?_; intro v9 w9 ho hb hg hat; have RP9 := Aside0.mk ho; have LP9 := Aside0.mk hb; have RO9 := Aside0.mk (Kd.R_grown RO0.out hg (fun k hk e => by have := Kd.R_base RP0.out k e.symm; omega)); clear ho hb hg hat)
                    have y1 := HYC.out _ (Kd.R_reads' RO9.out).2.2
                    clear y0
                    go_wp2_with ((with_reducible refine gate_builtin (b := .append) (xs := #[.tmp 77, .tmp 82]) rfl ?_); at_builtin; refine Kd.R_append (Kd.int .i64) (w0 := w3) w3.heap.size rfl (.tmp 77) (.tmp 82) 22 2 _ 8 rfl Try.underlying22 info2 rfl (Nat.succ_pos 0) (Nat.succ_pos 7) _ (pre ++ [id]) y [.int .i64 y] (fun _ => True) (fun _ => False) rfl rfl rfl (fun _ h => h.elim) (fun _ _ => trivial) RP9.out LP9.out LP9.out.size (by have := HIN.out.len; have := HG.out.len; have := HIM.out; have := HDL.out; have := HI.out; have := HK.out; (try simp only [List.length_append, List.length_singleton]); omega) ?_; intro v8 w8 ho hb hg hat; have RP8 := Aside0.mk ho; have LP8 := Aside0.mk hb; have RO8 := Aside0.mk (Kd.R_grown RO9.out hg (fun k hk e => by have := Kd.R_base RP9.out k e.symm; omega)); clear ho hb hg hat)
                    go_wp2_with fail
                    go_roundw
                    case rel => exact ⟨k + 1, _, true, rfl, congrArg (Value.int .i64) hw2, ⟨by have := HKM.out; omega⟩, HI2, RP8, RO8, LP8⟩
                    case measure =>
                      rw [hw2]
                      show ((out.length : Int) - ((k + 1 : Nat) : Int)).toNat < ((out.length : Int) - (k : Int)).toNat
                      have := HKM.out
                      omega
                  · have e1 : decide (id < y) = false := decide_eq_false hlt
                    have HI2 : Aside0 (Ins id out (pre ++ [y]) false (k + 1)) := ⟨by have h := HIN.out.pass HG.out.sorted HFRS.out HKM.out (Or.inr (by rw [HY.out]; exact hlt)); rwa [HY.out] at h⟩
                    clear hlt
                    go_wp2_with ((with_reducible refine gate_builtin (b := .append) (xs := #[.tmp 77, .tmp 82]) rfl ?_); at_builtin; refine Kd.R_append (Kd.int .i64) (w0 := w3) w3.heap.size rfl (.tmp 77) (.tmp 82) 22 2 _ 8 rfl Try.underlying22 info2 rfl (Nat.succ_pos 0) (Nat.succ_pos 7) _ pre y [.int .i64 y] (fun _ => True) (fun _ => False) rfl rfl rfl (fun _ h => h.elim) (fun _ _ => trivial) RP0.out LP0.out LP0.out.size (by have := HIN.out.len; have := HG.out.len; have := HIM.out; have := HDL.out; have := HI.out; have := HK.out; (try simp only [List.length_append, List.length_singleton]); omega) ?_; intro v9 w9 ho hb hg hat; have RP9 := Aside0.mk ho; have LP9 := Aside0.mk hb; have RO9 := Aside0.mk (Kd.R_grown RO0.out hg (fun k hk e => by have := Kd.R_base RP0.out k e.symm; omega)); clear ho hb hg hat)
                    go_wp2_with fail
                    go_roundw
                    case rel => exact ⟨k + 1, _, false, rfl, congrArg (Value.int .i64) hw2, ⟨by have := HKM.out; omega⟩, HI2, RP9, RO9, LP9⟩
                    case measure =>
                      rw [hw2]
                      show ((out.length : Int) - ((k + 1 : Nat) : Int)).toNat < ((out.length : Int) - (k : Int)).toNat
                      have := HKM.out
                      omega
                · have HI2 : Aside0 (Ins id out (pre ++ [y]) true (k + 1)) := ⟨by have h := HIN.out.pass HG.out.sorted HFRS.out HKM.out (Or.inl rfl); rwa [HY.out] at h⟩
                  go_wp2_with ((with_reducible refine gate_builtin (b := .append) (xs := #[.tmp 77, .tmp 82]) rfl ?_); at_builtin; refine Kd.R_append (Kd.int .i64) (w0 := w3) w3.heap.size rfl (.tmp 77) (.tmp 82) 22 2 _ 8 rfl Try.underlying22 info2 rfl (Nat.succ_pos 0) (Nat.succ_pos 7) _ pre y [.int .i64 y] (fun _ => True) (fun _ => False) rfl rfl rfl (fun _ h => h.elim) (fun _ _ => trivial) RP0.out LP0.out LP0.out.size (by have := HIN.out.len; have := HG.out.len; have := HIM.out; have := HDL.out; have := HI.out; have := HK.out; (try simp only [List.length_append, List.length_singleton]); omega) ?_; intro v9 w9 ho hb hg hat; have RP9 := Aside0.mk ho; have LP9 := Aside0.mk hb; have RO9 := Aside0.mk (Kd.R_grown RO0.out hg (fun k hk e => by have := Kd.R_base RP0.out k e.symm; omega)); clear ho hb hg hat)
                  go_wp2_with fail
                  go_roundw
                  case rel => exact ⟨k + 1, _, true, rfl, congrArg (Value.int .i64) hw2, ⟨by have := HKM.out; omega⟩, HI2, RP9, RO9, LP9⟩
                  case measure =>
                    rw [hw2]
                    show ((out.length : Int) - ((k + 1 : Nat) : Int)).toNat < ((out.length : Int) - (k : Int)).toNat
                    have := HKM.out
                    omega
              · have d4 : decide ((k : Int) < (out.length : Int)) = false := decide_eq_false (by omega)
                have d5 : decide (k < out.length) = false := decide_eq_false hk
                have HKE : Aside0 (k = out.length) := ⟨by have := HK.out; omega⟩
                have HGA : Aside0 (Got D m conn l (i + 1) (if done = true then pre else pre ++ [id])) := ⟨by
                  have h := HG.out.add (pre := pre) (done := done) HIM.out (by rw [HXD.out]; exact HRR.out) (by rw [HXD.out, ← HKE.out]; exact HIN.out)
                  rwa [HXD.out] at h⟩
                clear hk
                cases done
                · rw [if_neg (by decide)] at HGA
                  go_wp2_with ((with_reducible refine gate_builtin (b := .append) (xs := #[.tmp 86, .tmp 88]) rfl ?_); at_builtin; refine Kd.R_append (Kd.int .i64) (w0 := w3) w3.heap.size rfl (.tmp 86) (.tmp 88) 22 2 _ 8 rfl Try.underlying22 info2 rfl (Nat.succ_pos 0) (Nat.succ_pos 7) _ pre id [.int .i64 id] (fun _ => True) (fun _ => False) rfl rfl rfl (fun _ h => h.elim) (fun _ _ => trivial) RP0.out LP0.out LP0.out.size (by have := HIN.out.len; have := HG.out.len; have := HIM.out; have := HDL.out; have := HI.out; have := HK.out; (try simp only [List.length_append, List.length_singleton]); omega) ?_; intro v9 w9 ho hb hg hat; have RP9 := Aside0.mk ho; have LP9 := Aside0.mk hb; have RO9 := Aside0.mk (Kd.R_grown RO0.out hg (fun k hk e => by have := Kd.R_base RP0.out k e.symm; omega)); clear ho hb hg hat)
                  go_roundw
                  case rel => exact ⟨i + 1, pre ++ [id], congrArg (Value.int .i64) hw1, ⟨by have := HIM.out; omega⟩, ⟨Kd.R_lower RP9.out L3.out.size⟩, HGA, ⟨below_then L3.out L3.out.size LP9.out⟩⟩
                  case measure =>
                    rw [hw1]
                    show ((D.length : Int) - ((i + 1 : Nat) : Int)).toNat < ((D.length : Int) - (i : Int)).toNat
                    have := HIM.out
                    omega
                · rw [if_pos rfl] at HGA
                  go_wp2_with fail
                  go_roundw
                  case rel => exact ⟨i + 1, pre, congrArg (Value.int .i64) hw1, ⟨by have := HIM.out; omega⟩, ⟨Kd.R_lower RP0.out L3.out.size⟩, HGA, ⟨below_then L3.out L3.out.size LP0.out⟩⟩
                  case measure =>
                    rw [hw1]
                    show ((D.length : Int) - ((i + 1 : Nat) : Int)).toNat < ((D.length : Int) - (i : Int)).toNat
                    have := HIM.out
                    omega
    · have d1 : decide ((i : Int) < (D.length : Int)) = false := decide_eq_false (by omega)
      have d2 : decide (i < D.length) = false := decide_eq_false hi
      have HE : Aside0 (i = D.length) := ⟨by have := HI.out; omega⟩
      clear hi
      go_wp2_with fail
      go_ret
      refine ⟨_, out, rfl, RO.out, ?_, L1.out⟩
      have h := HG.out
      rw [HE.out] at h
      exact h.all HD.out
end Go.Proofs.Ytedkjbdkokdgdaa.Sh
