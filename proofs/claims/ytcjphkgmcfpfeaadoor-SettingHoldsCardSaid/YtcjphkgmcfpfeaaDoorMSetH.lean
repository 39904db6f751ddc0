/- The law SettingHolds, walked: a book beside the set that holds and the lists that wait, along every script. The package's variable holds what the program lays; the script fits in memory. -/
import Derived.Test.YtcjphkgmcfpfeaaDoorMSetG
namespace Go.Proofs.YtcjphkgmcfpfeaaDoor.MS
open Go Go.RowKit Go.Proofs.YtcjphkgmcfpfeaaDoorW.PrintWords Go.Proofs.YtcjphkgmcfpfeaaDoorW.PrintLast Go.Proofs.YtcjphkgmcfpfeaaDoorW.PrintMore Go.Proofs.YtcjphkgmcfpfeaaDoor.QL
set_option linter.unusedSimpArgs false
set_option linter.unusedVariables false
set_option maxHeartbeats 40000000
set_option maxRecDepth 100000
attribute [local go_sem high] eqA23 eqA28
theorem acked_ex (base g : Nat) (F : Nat → Prop) (cl : Bool) (s : St) (ls : List (List S28)) (w : World) (h : IsB base w g F cl s ls) : Calls Tryd.prog 28 #[.pointer (some ⟨g, 0, none⟩)] w fun e w' => e = .returned (.agg #[.int .i64 s.a, .int .i64 s.b, .int .i64 s.c, .int .i64 s.d, .int .i64 s.e, .int .i64 s.f]) ∧ Below w.heap.size w w' := acked_calls base g F cl s ls w h
theorem apply_s2 (s : St) (A : Option Addr) (c : Nat) (l : List S28) (cl : Bool) (s2 : St) (c2 : Int) (w : World) (hr : Kd.C k28 w A l.length l) (hc : l.length ≤ c) (h : apply cl s l = (s2, c2)) :
    Calls Tryd.prog 11 #[.agg #[.int .i64 s.a, .int .i64 s.b, .int .i64 s.c, .int .i64 s.d, .int .i64 s.e, .int .i64 s.f], .slice A l.length c, .bool cl] w fun e w' => e = .returned (.tuple #[.agg #[.int .i64 s2.a, .int .i64 s2.b, .int .i64 s2.c, .int .i64 s2.d, .int .i64 s2.e, .int .i64 s2.f], .int .i64 c2]) ∧ Below w.heap.size w w' := by
  have h1 := apply_calls s A c l cl w hr hc
  rw [h] at h1
  exact h1
theorem send_as (base g : Nat) (F : Nat → Prop) (cl : Bool) (s : St) (ls : List (List S28)) (A : Option Addr) (c : Nat) (l : List S28) (w : World) (e0 : Int) (ls' : List (List S28)) (hI : IsB base w g F cl s ls) (hr : Kd.C k28 w A l.length l) (hc : l.length ≤ c) (hsz : l.length * 16 ≤ 140737488355328) (hs : sendF cl ls l = (e0, ls')) :
    Calls Tryd.prog 32 #[.pointer (some ⟨g, 0, none⟩), .slice A l.length c] w fun e w' => e = .returned (.int .i64 e0) ∧ ∃ F', IsB base w' g F' cl s ls' ∧ (∀ k, F' k → F k ∨ w.heap.size ≤ k) ∧ Kept w w' F ∧ Below base w w' := by
  have h := send_calls base g F cl s ls A c l w hI hr hc hsz
  rw [hs] at h
  exact h
theorem ack_nil (base g : Nat) (F : Nat → Prop) (cl : Bool) (s : St) (w : World) (hI : IsB base w g F cl s []) : Calls Tryd.prog 33 #[.pointer (some ⟨g, 0, none⟩)] w fun e w' => e = .returned (.tuple #[.agg #[.int .i64 0, .int .i64 0, .int .i64 0, .int .i64 0, .int .i64 0, .int .i64 0], .bool false]) ∧ Below w.heap.size w w' := ack_none base g F cl s w hI
theorem ack_s2 (base g : Nat) (F : Nat → Prop) (cl : Bool) (s : St) (l : List S28) (t : List (List S28)) (s2 : St) (c2 : Int) (w : World) (hI : IsB base w g F cl s (l :: t)) (h : apply cl s l = (s2, c2)) :
    Calls Tryd.prog 33 #[.pointer (some ⟨g, 0, none⟩)] w fun e w' => e = .returned (.tuple #[.agg #[.int .i64 s2.a, .int .i64 s2.b, .int .i64 s2.c, .int .i64 s2.d, .int .i64 s2.e, .int .i64 s2.f], .bool true]) ∧ IsB base w' g F cl s2 t ∧ Kept w w' F ∧ Below base w w' := by
  have h1 := ack_some base g F cl s l t w hI
  rw [h] at h1
  exact h1
theorem info24f (w0 : World) : (Tryd.prog.info? 24).map (fun i => (i.zero, i.size, i.bytes)) = some (some (.slice none 0 0), (Kd.fixed (Kd.slice 28 k28) w0).sz, 24) := info24
theorem at_F {w w0 : World} {A : Option Addr} {n : Nat} {xs : List (List S28)} (h : Kd.C (Kd.fixed (Kd.slice 28 k28) w0) w A n xs) (i : Int) (h0 : 0 ≤ i) (h1 : i < n) : ∃ ad A0 c0, A = some ad ∧ w.cell? (ad.add i.toNat) = some (.slice A0 (rd_L2 xs i).length c0) ∧ (rd_L2 xs i).length ≤ c0 ∧ k28.C w0 A0 (rd_L2 xs i).length (rd_L2 xs i) := by
  obtain ⟨ad, c, e, _, hK, hc0⟩ := Kd.C_get h ([] : List S28) i h0 h1
  have hc : ∀ j u, c[j]? = some u → w.cell? (ad.add (i.toNat * 1 + j)) = some u := hc0
  obtain ⟨A0, c0, rfl, l0, g0⟩ := hK
  exact ⟨ad, A0, c0, e, by have hq := hc 0 _ rfl; rwa [Nat.mul_one, Nat.add_zero] at hq, l0, g0⟩
theorem holds_calls (cl : Bool) (A : Option Addr) (c : Nat) (l : List S46) (w : World) (hG : GL w) (hr : Kd.C k46 w A l.length l) (hc : l.length ≤ c) (hls : ∀ x ∈ l, x.f2.length * 16 ≤ 140737488351232) :
    Calls Tryd.prog 7 #[.bool cl, .slice A l.length c] w fun e w' => e = .returned (.bool true) ∧ Below w.heap.size w w' := by
  have HR := Aside0.mk hr
  have HC := Aside0.mk hc
  have HLS := Aside0.mk hls
  have HG := Aside0.mk hG
  have hl63 : l.length ≤ 9223372036854775807 := hr.2.1
  clear hr hc hls hG
  go_enter Tryd.func7, Tryd.ntmps7
  go_upto_region 4 with (first
    | (go_at_call 25; refine (new_calls cl _ HG.out).mono ?_; rintro e w1 ⟨g, rfl, hI, hge, hb⟩; have HB1 := Aside0.mk hb; have HI1 := Aside0.mk hI; clear hb hI hge)
    | (go_at_call 24; refine (first_calls _ (HG.out.below HB1.out)).mono ?_; rintro e w2 ⟨rfl, hb⟩; have HB2 := Aside0.mk (below_then HB1.out HB1.out.size hb); have HI2 := Aside0.mk (HI1.out.below hb); clear hb))
  go_upto_region 5 with (first
    | (go_at_call 19; refine (default_lit _ (HG.out.below HB2.out)).mono ?_; rintro e w3 ⟨rfl, hb⟩; have HB3 := Aside0.mk (below_then HB2.out HB2.out.size hb); have HI3 := Aside0.mk (HI2.out.below hb); clear hb))
  obtain ⟨W4, hW4⟩ : ∃ W, w3.alloc (.cells #[.int .i64 4096, .int .i64 1, .int .i64 2147483647, .int .i64 65535, .int .i64 16384, .int .i64 2147483647] 23) = W := ⟨_, rfl⟩
  obtain ⟨b6, hb6⟩ : ∃ b, w3.heap.size = b := ⟨_, rfl⟩
  have HI4 : Aside0 (HInv w W4 b6 g (fun k => k = g) (.slice none 0 0) cl init []) := ⟨by
    rw [← hW4, ← hb6]
    have hgl := HI3.out
    obtain ⟨vv, hv⟩ := hgl
    have hlt := (hv.bound g hv.mem).2
    exact ⟨blk_new w3 _, HI3.out.below (below_alloc (Below.refl _ _) _), Kd.Q_nil _ _ _ _ _, by omega, HB3.out.size, below_alloc HB3.out _⟩⟩
  rw [hW4, hb6]
  clear hW4 hb6 HB1 HB2 HB3 HI1 HI2 HI3
  go_wp2_with fail
  go_loopw [7, 8] (fun v7 i w' => ∃ (k : Nat) (F : Nat → Prop) (s : St) (wait : List (List S28)), k ≤ l.length ∧ i = .int .i64 k ∧ Aside0 (HInv w w' b6 g F v7 cl s wait)) (fun _ i _ => l.length - (intOf i).toNat)
  case atStart => exact ⟨0, _, init, [], Nat.zero_le _, rfl, HI4⟩
  case round =>
    obtain ⟨k, F, s, wait, hk, rfl, HI⟩ := hrel
    by_cases hlt : k < l.length
    · have p0 : (0 : Int) ≤ k := by omega
      have q0 : (k : Int) < (l.length : Int) := by omega
      obtain ⟨ad, A2, c2, e0, y0, y1, y2, hc2, hC2⟩ := at_T46 HR.out k p0 q0
      cases e0
      replace y0 := (HI.out.low.cell (World.block_lt_of_cell? w _ y0)).trans y0
      replace y1 := (HI.out.low.cell (World.block_lt_of_cell? w _ y1)).trans y1
      replace y2 := (HI.out.low.cell (World.block_lt_of_cell? w _ y2)).trans y2
      obtain ⟨K, hK⟩ : ∃ K, (rd_T46 l (k : Int)).f0 = K := ⟨_, rfl⟩
      obtain ⟨T, hT⟩ : ∃ K, (rd_T46 l (k : Int)).f1 = K := ⟨_, rfl⟩
      have hsz : (rd_T46 l (k : Int)).f2.length * 16 ≤ 140737488351232 := by
        have e : rd_T46 l (k : Int) = l[k] := by simp [rd_T46, hlt]
        rw [e]; exact HLS.out _ (List.getElem_mem hlt)
      obtain ⟨lst, hlst⟩ : ∃ K, (rd_T46 l (k : Int)).f2 = K := ⟨_, rfl⟩
      rw [hlst] at y2 hc2 hC2 hsz
      simp only [Int.toNat_natCast] at y0 y1 y2
      rw [hK] at y0
      rw [hT] at y1
      clear hK hT hlst
      have HSZ := Aside0.mk hsz
      have HC2 := Aside0.mk hc2
      have CL := Aside0.mk hC2
      clear hsz hc2 hC2
      go_upto_region 10 with fail
      obtain ⟨W9, hW9⟩ : ∃ W, wr.alloc (.cells #[.int .i64 K, .bool T, .slice A2 lst.length c2] 46) = W := ⟨_, rfl⟩
      obtain ⟨b9, hb9⟩ : ∃ b, wr.heap.size = b := ⟨_, rfl⟩
      have HX : Aside0 (W9.heap[b9]? = some (.cells #[.int .i64 K, .bool T, .slice A2 lst.length c2] 46 (0, 0))) := ⟨by rw [← hW9, ← hb9]; exact blk_new wr _⟩
      have HIold := HI
      replace HI : Aside0 (HInv w W9 b6 g F u7 cl s wait) := ⟨by rw [← hW9]; exact HI.out.below (below_alloc (Below.refl _ _) _)⟩
      have hbk := HIold.out.book
      rw [hW9, hb9]
      have HFZ : Aside0 (∀ i, F i → i = b9 → False) := ⟨by
        rintro i hi rfl
        obtain ⟨vv, hv⟩ := hbk
        have := (hv.bound _ hi).2
        omega⟩
      clear hW9 hb9 y0 y1 y2 hbk
      have zk0 := blk_cell HX.out 0
      go_upto_if 36 with fail
      clear zk0
      go_cut [7] from 37 to 66 (fun v7 wc => ∃ (F : Nat → Prop) (wait : List (List S28)), Aside0 (HInv w wc b6 g F v7 cl s wait) ∧ Aside0 (wc.heap[b9]? = some (.cells #[.int .i64 K, .bool T, .slice A2 lst.length c2] 46 (0, 0))) ∧ Aside0 (¬ F b9))
      case first =>
        have HFX : Aside0 (¬ F b9) := ⟨fun hh => HFZ.out b9 hh rfl⟩
        have zb0 := blk_cell HX.out 0
        have zb1 := blk_cell HX.out 1
        have zb2 := blk_cell HX.out 2
        by_cases h1 : K = 1
        · subst h1
          obtain ⟨s2, c2x, hs2⟩ : ∃ a b, apply cl s lst = (a, b) := ⟨_, _, rfl⟩
          have HS2 := Aside0.mk hs2
          clear hs2
          have z60 : W9.cell? ⟨b6, 0, none⟩ = some (.int .i64 s.a) := blk_cell HI.out.now 0
          have z61 : W9.cell? ⟨b6, 1, none⟩ = some (.int .i64 s.b) := blk_cell HI.out.now 1
          have z62 : W9.cell? ⟨b6, 2, none⟩ = some (.int .i64 s.c) := blk_cell HI.out.now 2
          have z63 : W9.cell? ⟨b6, 3, none⟩ = some (.int .i64 s.d) := blk_cell HI.out.now 3
          have z64 : W9.cell? ⟨b6, 4, none⟩ = some (.int .i64 s.e) := blk_cell HI.out.now 4
          have z65 : W9.cell? ⟨b6, 5, none⟩ = some (.int .i64 s.f) := blk_cell HI.out.now 5
          go_upto_region 12 with (first
            | (go_at_call 11; refine (apply_s2 s A2 c2 lst cl s2 c2x _ (Kd.C_below CL.out HI.out.low) HC2.out HS2.out).mono ?_; rintro e w11 ⟨rfl, hb⟩; have HB11 := Aside0.mk hb; clear hb))
          clear z60 z61 z62 z63 z64 z65 zb0 zb1 zb2
          obtain ⟨W12, hW12⟩ : ∃ W, w11.alloc (.cells #[.int .i64 s2.a, .int .i64 s2.b, .int .i64 s2.c, .int .i64 s2.d, .int .i64 s2.e, .int .i64 s2.f] 23) = W := ⟨_, rfl⟩
          obtain ⟨b10, hb10⟩ : ∃ b, w11.heap.size = b := ⟨_, rfl⟩
          have HB12 : Aside0 (Below W9.heap.size W9 W12) := ⟨by rw [← hW12]; exact below_alloc HB11.out _⟩
          rw [hW12, hb10]
          clear hW12 hb10 HB11
          replace HI := Aside0.mk (HI.out.below HB12.out)
          replace HX := Aside0.mk (blk_below HX.out HB12.out)
          clear HB12
          have zb0 := blk_cell HX.out 0
          have zb1 := blk_cell HX.out 1
          have zb2 := blk_cell HX.out 2
          have hfew := HI.out.book.few
          have HFEW := Aside0.mk hfew
          clear hfew
          
      
          by_cases hbad : badL cl lst = true
          · have HBAD := Aside0.mk hbad
            have hc0 : (c2x == 0) = false := beq_eq_false_iff_ne.mpr (by have h := (badL_apply cl s lst).1 hbad; rw [HS2.out] at h; exact h)
            clear hbad
            have hsend : sendF cl wait lst = (1, wait) := by
              unfold sendF
              rw [if_pos HBAD.out]
            have HSEND := Aside0.mk hsend
            clear hsend
            go_upto_region 13 with (first
              | ((with_reducible refine gate_builtin (b := .append) (xs := #[.const (.slice none 0 0), .tmp 47]) rfl ?_); at_builtin; refine Kd.R_append_rows k28 (w0 := W12) W12.heap.size rfl (.const (.slice none 0 0)) (.tmp 47) 24 28 (.agg #[.int .i64 0, .int .i64 0]) 16 rfl Tryd.underlying24 info28 rfl (by decide) (by omega) (.slice none 0 0) [] lst A2 lst.length c2 (fun _ => True) (fun _ => False) rfl rfl ?aO ?aR (fun _ _ h => h) (fun _ h => h.elim) ?aF ?aB ?aS ?aL ?_; (case aO => exact Kd.R_nil _ _ _ _ _); (case aR => exact Kd.C_below CL.out HI.out.low); (case aF => exact fun _ _ => trivial); (case aB => exact Below.refl _ _); (case aS => exact Nat.le_refl _); (case aL => have := HSZ.out; simp; omega); intro v1 w13 ho hb hg hat; rw [List.nil_append] at ho; obtain ⟨A13, c13, rfl, hl13, hc13⟩ := Kd.R_reads ho; have HI13 := Aside0.mk (HI.out.below hb); have HX13 := Aside0.mk (blk_below HX.out hb); have HL13 := Aside0.mk hl13; have HC13 := Aside0.mk hc13; clear ho hb hg hat hl13 hc13)
              | (go_at_call 32; refine (send_as w.heap.size g F cl s wait A13 c13 lst _ 1 (wait) HI13.out.book HC13.out HL13.out (by have := HSZ.out; omega) HSEND.out).mono ?_; rintro e w14 ⟨rfl, F', hb2, hf2, hk2, hlow2⟩; have HB2 := Aside0.mk hb2; have HF2 := Aside0.mk hf2; have HK2 := Aside0.mk hk2; have HLOW2 := Aside0.mk hlow2; clear hb2 hf2 hk2 hlow2))
            clear zb0 zb1 zb2
            have hfb : ¬ F b9 := fun hh => by
              obtain ⟨vv, hv⟩ := HI.out.book
              exact HFX.out hh
            have HX14 := Aside0.mk (blk_kept HX13.out HK2.out hfb)
            clear hfb
            have HWR := Aside0.mk (HI13.out.wrote HK2.out HB2.out HF2.out)
            have HI14 : Aside0 (HInv w w14 b6 g F' u7 cl s (wait)) := ⟨⟨HWR.out.1, HB2.out, HWR.out.2.1, HWR.out.2.2, HI13.out.ge, Below.trans HI13.out.low HLOW2.out⟩⟩
            have zb0 := blk_cell HX14.out 0
            have zb2 := blk_cell HX14.out 2
            have HFX14 : Aside0 (¬ F' b9) := ⟨fun hh => by
              rcases HF2.out b9 hh with h2 | h2
              · exact HFX.out h2
              · have := blk_lt HX13.out; omega⟩
            go_wp2_with fail
            trace_state
            go_meet
            case rel => exact ⟨F', wait, HI14, HX14, HFX14⟩
          · by_cases h64 : wait.length = 64
            · have HOK := Aside0.mk (Bool.not_eq_true _ ▸ hbad : badL cl lst = false)
              have H64 := Aside0.mk h64
              have hc0 : (c2x == 0) = true := beq_iff_eq.mpr (by have h := (badL_apply cl s lst); rw [HS2.out, HOK.out] at h; simpa using h)
              have hlw : decide ((wait.length : Int) < 64) = false := decide_eq_false (by omega)
              clear hbad h64
              have hsend : sendF cl wait lst = (6, wait) := by
                unfold sendF
                rw [HOK.out, if_neg (by simp), if_pos H64.out]
              have HSEND := Aside0.mk hsend
              clear hsend
              go_upto_region 13 with (first
                | ((with_reducible refine gate_builtin (b := .append) (xs := #[.const (.slice none 0 0), .tmp 47]) rfl ?_); at_builtin; refine Kd.R_append_rows k28 (w0 := W12) W12.heap.size rfl (.const (.slice none 0 0)) (.tmp 47) 24 28 (.agg #[.int .i64 0, .int .i64 0]) 16 rfl Tryd.underlying24 info28 rfl (by decide) (by omega) (.slice none 0 0) [] lst A2 lst.length c2 (fun _ => True) (fun _ => False) rfl rfl ?aO ?aR (fun _ _ h => h) (fun _ h => h.elim) ?aF ?aB ?aS ?aL ?_; (case aO => exact Kd.R_nil _ _ _ _ _); (case aR => exact Kd.C_below CL.out HI.out.low); (case aF => exact fun _ _ => trivial); (case aB => exact Below.refl _ _); (case aS => exact Nat.le_refl _); (case aL => have := HSZ.out; simp; omega); intro v1 w13 ho hb hg hat; rw [List.nil_append] at ho; obtain ⟨A13, c13, rfl, hl13, hc13⟩ := Kd.R_reads ho; have HI13 := Aside0.mk (HI.out.below hb); have HX13 := Aside0.mk (blk_below HX.out hb); have HL13 := Aside0.mk hl13; have HC13 := Aside0.mk hc13; clear ho hb hg hat hl13 hc13)
                | (go_at_call 32; refine (send_as w.heap.size g F cl s wait A13 c13 lst _ 6 (wait) HI13.out.book HC13.out HL13.out (by have := HSZ.out; omega) HSEND.out).mono ?_; rintro e w14 ⟨rfl, F', hb2, hf2, hk2, hlow2⟩; have HB2 := Aside0.mk hb2; have HF2 := Aside0.mk hf2; have HK2 := Aside0.mk hk2; have HLOW2 := Aside0.mk hlow2; clear hb2 hf2 hk2 hlow2))
              clear zb0 zb1 zb2
              have hfb : ¬ F b9 := fun hh => by
                obtain ⟨vv, hv⟩ := HI.out.book
                exact HFX.out hh
              have HX14 := Aside0.mk (blk_kept HX13.out HK2.out hfb)
              clear hfb
              have HWR := Aside0.mk (HI13.out.wrote HK2.out HB2.out HF2.out)
              have HI14 : Aside0 (HInv w w14 b6 g F' u7 cl s (wait)) := ⟨⟨HWR.out.1, HB2.out, HWR.out.2.1, HWR.out.2.2, HI13.out.ge, Below.trans HI13.out.low HLOW2.out⟩⟩
              have zb0 := blk_cell HX14.out 0
              have zb2 := blk_cell HX14.out 2
              have HFX14 : Aside0 (¬ F' b9) := ⟨fun hh => by
                rcases HF2.out b9 hh with h2 | h2
                · exact HFX.out h2
                · have := blk_lt HX13.out; omega⟩
              obtain ⟨V7, C7, hv7, hcv7⟩ := Kd.Q_slice HWR.out.2.1
              have HV7 := Aside0.mk hv7
              clear hcv7
              subst hv7
              go_wp2_with fail
              go_meet
              case rel => exact ⟨F', wait, HI14, HX14, HFX14⟩
            · have HOK := Aside0.mk (Bool.not_eq_true _ ▸ hbad : badL cl lst = false)
              have H64 := Aside0.mk h64
              have hc0 : (c2x == 0) = true := beq_iff_eq.mpr (by have h := (badL_apply cl s lst); rw [HS2.out, HOK.out] at h; simpa using h)
              have hlw : decide ((wait.length : Int) < 64) = true := decide_eq_true (by have := HFEW.out; omega)
              clear hbad h64
              have hsend : sendF cl wait lst = (0, wait ++ [lst]) := by
                unfold sendF
                rw [HOK.out, if_neg (by simp), if_neg H64.out]
              have HSEND := Aside0.mk hsend
              clear hsend
              go_upto_region 13 with (first
                | ((with_reducible refine gate_builtin (b := .append) (xs := #[.const (.slice none 0 0), .tmp 47]) rfl ?_); at_builtin; refine Kd.R_append_rows k28 (w0 := W12) W12.heap.size rfl (.const (.slice none 0 0)) (.tmp 47) 24 28 (.agg #[.int .i64 0, .int .i64 0]) 16 rfl Tryd.underlying24 info28 rfl (by decide) (by omega) (.slice none 0 0) [] lst A2 lst.length c2 (fun _ => True) (fun _ => False) rfl rfl ?aO ?aR (fun _ _ h => h) (fun _ h => h.elim) ?aF ?aB ?aS ?aL ?_; (case aO => exact Kd.R_nil _ _ _ _ _); (case aR => exact Kd.C_below CL.out HI.out.low); (case aF => exact fun _ _ => trivial); (case aB => exact Below.refl _ _); (case aS => exact Nat.le_refl _); (case aL => have := HSZ.out; simp; omega); intro v1 w13 ho hb hg hat; rw [List.nil_append] at ho; obtain ⟨A13, c13, rfl, hl13, hc13⟩ := Kd.R_reads ho; have HI13 := Aside0.mk (HI.out.below hb); have HX13 := Aside0.mk (blk_below HX.out hb); have HL13 := Aside0.mk hl13; have HC13 := Aside0.mk hc13; clear ho hb hg hat hl13 hc13)
                | (go_at_call 32; refine (send_as w.heap.size g F cl s wait A13 c13 lst _ 0 (wait ++ [lst]) HI13.out.book HC13.out HL13.out (by have := HSZ.out; omega) HSEND.out).mono ?_; rintro e w14 ⟨rfl, F', hb2, hf2, hk2, hlow2⟩; have HB2 := Aside0.mk hb2; have HF2 := Aside0.mk hf2; have HK2 := Aside0.mk hk2; have HLOW2 := Aside0.mk hlow2; clear hb2 hf2 hk2 hlow2))
              clear zb0 zb1 zb2
              have hfb : ¬ F b9 := fun hh => by
                obtain ⟨vv, hv⟩ := HI.out.book
                exact HFX.out hh
              have HX14 := Aside0.mk (blk_kept HX13.out HK2.out hfb)
              clear hfb
              have HWR := Aside0.mk (HI13.out.wrote HK2.out HB2.out HF2.out)
              have HLOW14 := Aside0.mk (Below.trans HI13.out.low HLOW2.out)
              have zb0 := blk_cell HX14.out 0
              have zb2 := blk_cell HX14.out 2
              have HFX14 : Aside0 (¬ F' b9) := ⟨fun hh => by
                rcases HF2.out b9 hh with h2 | h2
                · exact HFX.out h2
                · have := blk_lt HX13.out; omega⟩
              obtain ⟨V7, C7, hv7, hcv7⟩ := Kd.Q_slice HWR.out.2.1
              have HV7 := Aside0.mk hv7
              clear hcv7
              subst hv7
              go_wp2_with (first
                | ((with_reducible refine gate_builtin (b := .append) (xs := #[.tmp 62, .tmp 65]) rfl ?_); at_builtin; refine Kd.Q_append (Kd.fixed (Kd.slice 28 k28) w) (w0 := w) w.heap.size rfl (.tmp 62) (.tmp 65) 52 24 (.slice none 0 0) 24 rfl Tryd.underlying52 (info24f w) rfl (by show 0 < 1; omega) (by omega) (.slice V7 wait.length C7) wait lst [.slice A2 lst.length c2] (fun k => ¬ F' k ∧ k ≠ b6) (fun _ => False) rfl rfl ?aP (fun _ h => h.elim) ?aF ?aO ?aB ?aS ?aL ?_; (case aP => exact fixed_M CL.out HC2.out); (case aF => intro k hk; refine ⟨fun hh => ?_, fun e => ?_⟩; (obtain ⟨vv, hv⟩ := HB2.out; have := (hv.bound k hh).2; omega); (have := blk_lt HWR.out.1; omega)); (case aO => exact HWR.out.2.1); (case aB => exact HLOW14.out); (case aS => exact HLOW14.out.size); (case aL => have := HFEW.out; omega); intro v16 w16 ho hb hg hat; have HO16 := Aside0.mk ho; have HB16 := Aside0.mk hb; have HG16 := Aside0.mk hg; clear ho hb hg hat))
              go_meet
              case rel =>
                refine ⟨F', wait ++ [lst], ⟨⟨blk_grown HWR.out.1 HG16.out (Kd.Q_away HWR.out.2.1 (fun _ h => h.2)), ?_, HO16.out, HWR.out.2.2, HI13.out.ge, HB16.out⟩⟩, ⟨blk_grown HX14.out HG16.out (Kd.Q_ne HWR.out.2.1 HX14.out (by decide))⟩, HFX14⟩
                exact HB2.out.kept (Kept.of_grown HG16.out (Kept.refl w14 (fun k => (Value.slice V7 wait.length C7).ownBlock = some k)) (fun k hk => .inl hk)) (fun i hi he => (HWR.out.2.1.1 i he).1 hi)
        · have h1b : (K == 1) = false := beq_eq_false_iff_ne.mpr h1
          have H1 := Aside0.mk h1
          clear h1
          go_wp2_with fail
          go_meet
          case rel => exact ⟨F, wait, HI, HX, HFX⟩
      case rest =>
        clear HI HX HFZ
        obtain ⟨F, wait, HI, HX, HFX⟩ := hcut
        have zk0 := blk_cell HX.out 0
        go_upto_if 69 with fail
        clear zk0
        go_cut [7] from 70 to 106 (fun v7 wc => ∃ (F : Nat → Prop) (s : St) (wait : List (List S28)), Aside0 (HInv w wc b6 g F v7 cl s wait))
        case first =>
          by_cases h2 : K = 2
          · subst h2
            cases wait with
            | nil =>
              obtain ⟨V7, C7, hv7, hcv7⟩ := Kd.Q_slice HI.out.row
              have HV7 := Aside0.mk hv7
              clear hcv7
              subst hv7
              
              go_upto_region 19 with (first
                | (go_at_call 33; refine (ack_nil w.heap.size g F cl s _ HI.out.book).mono ?_; rintro e w18 ⟨rfl, hb⟩; have HB18 := Aside0.mk hb; clear hb))
              obtain ⟨W18, hW18⟩ : ∃ W, w18.alloc (.cells #[.int .i64 0, .int .i64 0, .int .i64 0, .int .i64 0, .int .i64 0, .int .i64 0] 23) = W := ⟨_, rfl⟩
              obtain ⟨b13, hb13⟩ : ∃ b, w18.heap.size = b := ⟨_, rfl⟩
              have HB19 : Aside0 (Below wc.heap.size wc W18) := ⟨by rw [← hW18]; exact below_alloc HB18.out _⟩
              have H13 : Aside0 (W18.heap[b13]? = some (.cells #[.int .i64 0, .int .i64 0, .int .i64 0, .int .i64 0, .int .i64 0, .int .i64 0] 23 (0, 0))) := ⟨by rw [← hW18, ← hb13]; exact blk_new w18 _⟩
              rw [hW18, hb13]
              clear hW18 hb13
              have HI18 := Aside0.mk (HI.out.below HB19.out)
              have z130 : W18.cell? ⟨b13, 0, none⟩ = some (.int .i64 0) := blk_cell H13.out 0
              have z131 : W18.cell? ⟨b13, 1, none⟩ = some (.int .i64 0) := blk_cell H13.out 1
              have z132 : W18.cell? ⟨b13, 2, none⟩ = some (.int .i64 0) := blk_cell H13.out 2
              have z133 : W18.cell? ⟨b13, 3, none⟩ = some (.int .i64 0) := blk_cell H13.out 3
              have z134 : W18.cell? ⟨b13, 4, none⟩ = some (.int .i64 0) := blk_cell H13.out 4
              have z135 : W18.cell? ⟨b13, 5, none⟩ = some (.int .i64 0) := blk_cell H13.out 5
              go_wp2_with fail
              go_meet
              case rel => exact ⟨F, s, [], HI18⟩
            | cons x t =>
              obtain ⟨V7, C7, hv7, hcv7⟩ := Kd.Q_slice HI.out.row
              subst hv7
              obtain ⟨s2, c2x, hs2⟩ : ∃ a b, apply cl s x = (a, b) := ⟨_, _, rfl⟩
              have HS2 := Aside0.mk hs2
              clear hs2
              obtain ⟨adw, _, _, rfl, _, _, _⟩ := at_F (Kd.Q_reads' HI.out.row).2.2 (0 : Int) (by omega) (by simp)
              go_upto_region 19 with (first
                | (go_at_call 33; refine (ack_s2 w.heap.size g F cl s x t s2 c2x _ HI.out.book HS2.out).mono ?_; rintro e w18 ⟨rfl, hb2, hk2, hlow2⟩; have HB2 := Aside0.mk hb2; have HK2 := Aside0.mk hk2; have HLOW2 := Aside0.mk hlow2; clear hb2 hk2 hlow2))
              obtain ⟨W18, hW18⟩ : ∃ W, w18.alloc (.cells #[.int .i64 s2.a, .int .i64 s2.b, .int .i64 s2.c, .int .i64 s2.d, .int .i64 s2.e, .int .i64 s2.f] 23) = W := ⟨_, rfl⟩
              obtain ⟨b13, hb13⟩ : ∃ b, w18.heap.size = b := ⟨_, rfl⟩
              have H13 : Aside0 (W18.heap[b13]? = some (.cells #[.int .i64 s2.a, .int .i64 s2.b, .int .i64 s2.c, .int .i64 s2.d, .int .i64 s2.e, .int .i64 s2.f] 23 (0, 0))) := ⟨by rw [← hW18, ← hb13]; exact blk_new w18 _⟩
              have BK18 : Aside0 (IsB w.heap.size W18 g F cl s2 t) := ⟨by rw [← hW18]; exact HB2.out.below (below_alloc (Below.refl _ _) _)⟩
              have N18 : Aside0 (W18.heap[b6]? = some (.cells s.arr 23 (0, 0))) := ⟨by rw [← hW18]; exact blk_alloc (blk_kept HI.out.now HK2.out HI.out.nf) _⟩
              have n613 : Aside0 (b13 ≠ b6) := ⟨by have := blk_lt (blk_kept HI.out.now HK2.out HI.out.nf); omega⟩
              have Q18 : Aside0 ((Kd.fixed (Kd.slice 28 k28) w).Q 24 W18 w.heap.size (fun k => ¬ F k ∧ k ≠ b6) (.slice (some adw) (x :: t).length C7) (x :: t)) := ⟨by rw [← hW18]; exact Kd.Q_below (Kd.Q_kept HI.out.row HK2.out (fun i hi => hi.1)) (below_alloc (Below.refl _ _) _)⟩
              have L18 : Aside0 (Below w.heap.size w W18) := ⟨by rw [← hW18]; exact below_alloc (Below.trans HI.out.low HLOW2.out) _⟩
              rw [hW18, hb13]
              clear hW18 hb13 HB2 HK2 HLOW2
              have NFS := Aside0.mk HI.out.nf
              have GE := Aside0.mk HI.out.ge
              clear HI HX
              have p0w : decide ((0 : Int) < (t.length : Int) + 1) = true := decide_eq_true (by omega)
              obtain ⟨i0, hi0, _, hsz0, _⟩ := info_parts info24
              have hcut0 := cut_from (P := Tryd.prog) 52 24 .i64 Tryd.underlying52 hi0 1 hsz0 (some adw) (t.length + 1) C7 1 (by omega) (by omega)
              have hQ1 := Kd.Q_drop (k := 1) Q18.out (by simp)
              obtain ⟨A1, hA1⟩ : ∃ A1, A1 = (if C7 = 1 then some adw else (some adw : Option Addr).map (·.add (1 * 1))) := ⟨_, rfl⟩
              obtain ⟨c1, hc1⟩ : ∃ c1, c1 = C7 - 1 := ⟨_, rfl⟩
              have hcut7 : ∀ W, (Instr.slice 52 (.slice (some adw) (t.length + 1) C7) (some (.int .i64 1)) none none).run Tryd.prog W = .ok (.slice A1 t.length c1) W := by
                rw [hA1, hc1]; exact hcut0
              have Q1 : Aside0 ((Kd.fixed (Kd.slice 28 k28) w).Q 24 W18 w.heap.size (fun k => ¬ F k ∧ k ≠ b6) (.slice A1 t.length c1) t) := ⟨by rw [hA1, hc1]; exact hQ1⟩
              clear hA1 hc1 hQ1 hi0 hsz0 hcut0
              obtain ⟨ad2, A0, q0, e2, yw, hq0, hCx⟩ := at_F (Kd.Q_reads' Q18.out).2.2 (0 : Int) (by omega) (by simp)
              cases e2
              have e0 : rd_L2 (x :: t) 0 = x := rfl
              rw [e0] at yw hq0 hCx
              have ea : adw.add (0 : Int).toNat = adw := by simp [Addr.add]
              rw [ea] at yw
              have HQ0 := Aside0.mk hq0
              have CX := Aside0.mk hCx
              clear hq0 hCx e0 ea
              go_upto_region 22 with fail
              have d0 : W18.cell? ⟨b6, 0, none⟩ = some (.int .i64 s.a) := blk_cell N18.out 0
              have d1 : W18.cell? ⟨b6, 1, none⟩ = some (.int .i64 s.b) := blk_cell N18.out 1
              have d2 : W18.cell? ⟨b6, 2, none⟩ = some (.int .i64 s.c) := blk_cell N18.out 2
              have d3 : W18.cell? ⟨b6, 3, none⟩ = some (.int .i64 s.d) := blk_cell N18.out 3
              have d4 : W18.cell? ⟨b6, 4, none⟩ = some (.int .i64 s.e) := blk_cell N18.out 4
              have d5 : W18.cell? ⟨b6, 5, none⟩ = some (.int .i64 s.f) := blk_cell N18.out 5
              have d6 : W18.frozen? ⟨b6, 0, none⟩ = false := blk_frozen N18.out 0
              have d7 : W18.frozen? ⟨b6, 1, none⟩ = false := blk_frozen N18.out 1
              have d8 : W18.frozen? ⟨b6, 2, none⟩ = false := blk_frozen N18.out 2
              have d9 : W18.frozen? ⟨b6, 3, none⟩ = false := blk_frozen N18.out 3
              have d10 : W18.frozen? ⟨b6, 4, none⟩ = false := blk_frozen N18.out 4
              have d11 : W18.frozen? ⟨b6, 5, none⟩ = false := blk_frozen N18.out 5
              have d12 : W18.cell? adw = some (.slice A0 x.length q0) := yw
              have d13 : Kd.C k28 W18.drew A0 x.length x := Kd.C_below (Kd.C_below CX.out L18.out) (below_drew (Below.refl _ _))
              refine start_ (n := 10) (S := fun w' => w'.cell? ⟨b6, 0, none⟩ = some (.int .i64 s.a) ∧ w'.cell? ⟨b6, 1, none⟩ = some (.int .i64 s.b) ∧ w'.cell? ⟨b6, 2, none⟩ = some (.int .i64 s.c) ∧ w'.cell? ⟨b6, 3, none⟩ = some (.int .i64 s.d) ∧ w'.cell? ⟨b6, 4, none⟩ = some (.int .i64 s.e) ∧ w'.cell? ⟨b6, 5, none⟩ = some (.int .i64 s.f) ∧ w'.frozen? ⟨b6, 0, none⟩ = false ∧ w'.frozen? ⟨b6, 1, none⟩ = false ∧ w'.frozen? ⟨b6, 2, none⟩ = false ∧ w'.frozen? ⟨b6, 3, none⟩ = false ∧ w'.frozen? ⟨b6, 4, none⟩ = false ∧ w'.frozen? ⟨b6, 5, none⟩ = false ∧ w'.cell? adw = some (.slice A0 x.length q0) ∧ Kd.C k28 w' A0 x.length x) (ds := [9]) #[false, false, false, false, false, false, false, false, false, false] (by kernel_rfl) rfl rfl ⟨d0, d1, d2, d3, d4, d5, d6, d7, d8, d9, d10, d11, d12, d13⟩ (fun hHeld => ?_)
              refine pure_ (i := 1) (N := some 83) (v := ?_) (a' := ?_) #[false, true, false, false, false, false, false, false, false, false] rfl rfl (by kernel_rfl) (fun _ _ _ h => h) (Or.inl ⟨by rfl, ?_⟩) ?_ ?_
              rotate_left
              · intro w'
                go_simp
                with_reducible rfl
              rotate_left
              · simp only [Act.put, List.setIfInBounds_toArray, List.set_cons_zero, List.set_cons_succ, i64_w, i32_w]
                rfl
              refine pure_ (i := 2) (N := some 84) (v := ?_) (a' := ?_) #[false, true, true, false, false, false, false, false, false, false] rfl rfl (by kernel_rfl) (fun _ _ _ h => h) (Or.inl ⟨by rfl, ?_⟩) ?_ ?_
              rotate_left
              · intro w'
                go_simp
                with_reducible rfl
              rotate_left
              · simp only [Act.put, List.setIfInBounds_toArray, List.set_cons_zero, List.set_cons_succ, i64_w, i32_w]
                rfl
              refine pure_ (i := 4) (N := some 86) (v := ?_) (a' := ?_) #[false, true, true, false, true, false, false, false, false, false] rfl rfl (by kernel_rfl) (fun _ _ _ h => h) (Or.inl ⟨by rfl, ?_⟩) ?_ ?_
              rotate_left
              · intro w'
                go_simp
                with_reducible rfl
              rotate_left
              · simp only [Act.put, List.setIfInBounds_toArray, List.set_cons_zero, List.set_cons_succ, i64_w, i32_w]
                rfl
              refine take_ (i := 0) (N := some 82) (v := ?_) (a' := ?_) #[true, true, true, false, true, false, false, false, false, false] rfl rfl (by kernel_rfl) (fun _ _ _ h => h) (Or.inl ⟨by rfl, ?_⟩) hHeld ?_ ?_
              rotate_left
              · rintro w' ⟨s0, s1, s2, s3, s4, s5, s6, s7, s8, s9, s10, s11, s12, s13⟩
                go_simp
                with_reducible rfl
              rotate_left
              · simp only [Act.put, List.setIfInBounds_toArray, List.set_cons_zero, List.set_cons_succ, i64_w, i32_w]
                rfl
              refine take_ (i := 3) (N := some 85) (v := ?_) (a' := ?_) #[true, true, true, true, true, false, false, false, false, false] rfl rfl (by kernel_rfl) (fun _ _ _ h => h) (Or.inl ⟨by rfl, ?_⟩) hHeld ?_ ?_
              rotate_left
              · rintro w' ⟨s0, s1, s2, s3, s4, s5, s6, s7, s8, s9, s10, s11, s12, s13⟩
                go_simp
                with_reducible rfl
              rotate_left
              · simp only [Act.put, List.setIfInBounds_toArray, List.set_cons_zero, List.set_cons_succ, i64_w, i32_w]
                rfl
              refine one_ (i := 5) (N := some 87) #[true, true, true, true, true, true, false, false, false, false] rfl rfl (by kernel_rfl) (by decide) (fun K hK => ?_)
              refine goes_ Tryd.func11 (by kernel_rfl) rfl #[.agg #[.int .i64 s.a, .int .i64 s.b, .int .i64 s.c, .int .i64 s.d, .int .i64 s.e, .int .i64 s.f], .slice A0 x.length q0, .bool cl] (by rfl) rfl rfl (by simp only [List.map_toArray, List.map_cons, List.map_nil]; rfl) ?_
              with_reducible refine (apply_s2 s A0 q0 x cl s2 c2x _ hHeld.2.2.2.2.2.2.2.2.2.2.2.2.2 HQ0.out HS2.out).mono ?_
              rintro e w22 ⟨rfl, hb⟩
              refine ⟨_, rfl, ?_⟩
              have HB22 := Aside0.mk hb
              clear hb
              refine hK.out _ _ ⟨(HB22.out.cell (World.block_lt_of_cell? _ _ hHeld.1)).trans hHeld.1, (HB22.out.cell (World.block_lt_of_cell? _ _ hHeld.2.1)).trans hHeld.2.1, (HB22.out.cell (World.block_lt_of_cell? _ _ hHeld.2.2.1)).trans hHeld.2.2.1, (HB22.out.cell (World.block_lt_of_cell? _ _ hHeld.2.2.2.1)).trans hHeld.2.2.2.1, (HB22.out.cell (World.block_lt_of_cell? _ _ hHeld.2.2.2.2.1)).trans hHeld.2.2.2.2.1, (HB22.out.cell (World.block_lt_of_cell? _ _ hHeld.2.2.2.2.2.1)).trans hHeld.2.2.2.2.2.1, (HB22.out.frozen (p := ⟨b6, 0, none⟩) (World.block_lt_of_cell? _ _ hHeld.1)).trans hHeld.2.2.2.2.2.2.1, (HB22.out.frozen (p := ⟨b6, 1, none⟩) (World.block_lt_of_cell? _ _ hHeld.2.1)).trans hHeld.2.2.2.2.2.2.2.1, (HB22.out.frozen (p := ⟨b6, 2, none⟩) (World.block_lt_of_cell? _ _ hHeld.2.2.1)).trans hHeld.2.2.2.2.2.2.2.2.1, (HB22.out.frozen (p := ⟨b6, 3, none⟩) (World.block_lt_of_cell? _ _ hHeld.2.2.2.1)).trans hHeld.2.2.2.2.2.2.2.2.2.1, (HB22.out.frozen (p := ⟨b6, 4, none⟩) (World.block_lt_of_cell? _ _ hHeld.2.2.2.2.1)).trans hHeld.2.2.2.2.2.2.2.2.2.2.1, (HB22.out.frozen (p := ⟨b6, 5, none⟩) (World.block_lt_of_cell? _ _ hHeld.2.2.2.2.2.1)).trans hHeld.2.2.2.2.2.2.2.2.2.2.2.1, (HB22.out.cell (World.block_lt_of_cell? _ _ hHeld.2.2.2.2.2.2.2.2.2.2.2.2.1)).trans hHeld.2.2.2.2.2.2.2.2.2.2.2.2.1, Kd.C_below hHeld.2.2.2.2.2.2.2.2.2.2.2.2.2 HB22.out⟩ (fun hHeld => ?_)
              clear hK K
              refine norm_ (a' := ?_) ?_ ?_
              rotate_left
              · show Act.put _ (some 87) _ = _
                simp only [Act.put, List.setIfInBounds_toArray, List.set_cons_zero, List.set_cons_succ, i64_w, i32_w]
                rfl
              refine pure_ (i := 6) (N := some 81) (v := ?_) (a' := ?_) #[true, true, true, true, true, true, true, false, false, false] rfl rfl (by kernel_rfl) (fun _ _ _ h => h) (Or.inl ⟨by rfl, ?_⟩) ?_ ?_
              rotate_left
              · intro w'
                go_simp
                with_reducible rfl
              rotate_left
              · simp only [Act.put, List.setIfInBounds_toArray, List.set_cons_zero, List.set_cons_succ, i64_w, i32_w]
                rfl
              refine pure_ (i := 7) (N := some 88) (v := ?_) (a' := ?_) #[true, true, true, true, true, true, true, true, false, false] rfl rfl (by kernel_rfl) (fun _ _ _ h => h) (Or.inl ⟨by rfl, ?_⟩) ?_ ?_
              rotate_left
              · intro w'
                go_simp
                with_reducible rfl
              rotate_left
              · simp only [Act.put, List.setIfInBounds_toArray, List.set_cons_zero, List.set_cons_succ, i64_w, i32_w]
                rfl
              refine pure_ (i := 8) (N := some 89) (v := ?_) (a' := ?_) #[true, true, true, true, true, true, true, true, true, false] rfl rfl (by kernel_rfl) (fun _ _ _ h => h) (Or.inl ⟨by rfl, ?_⟩) ?_ ?_
              rotate_left
              · intro w'
                go_simp
                with_reducible rfl
              rotate_left
              · simp only [Act.put, List.setIfInBounds_toArray, List.set_cons_zero, List.set_cons_succ, i64_w, i32_w]
                rfl
              refine last_ (i := 9) (N := none) #[true, true, true, true, true, true, true, true, true, true] rfl rfl (by kernel_rfl) (by decide) (fun K hK => ?_)
              refine skip_ (w1 := ?_) (by rfl) rfl ?_ ?_
              rotate_left
              · go_simp
                rfl
              refine hK.out _ _ ?_
              clear hK K
              refine done_ (by kernel_rfl) ?_
              repeat (rename World.cell? _ _ = _ ∧ _ => hh; clear hh)
              clear d0 d1 d2 d3 d4 d5 d6 d7 d8 d9 d10 d11 d12 d13 yw
              have B22 : Aside0 (Below W18.heap.size W18 w22) := ⟨below_then (below_drew (Below.refl _ _)) (Nat.le_refl _) HB22.out⟩
              generalize hW23 : ((((((w22.setCell ⟨b6, 0, none⟩ (.int .i64 s2.a)).setCell ⟨b6, 1, none⟩ (.int .i64 s2.b)).setCell ⟨b6, 2, none⟩ (.int .i64 s2.c)).setCell ⟨b6, 3, none⟩ (.int .i64 s2.d)).setCell ⟨b6, 4, none⟩ (.int .i64 s2.e)).setCell ⟨b6, 5, none⟩ (.int .i64 s2.f)) = W23
              have N23 : Aside0 (W23.heap[b6]? = some (.cells s2.arr 23 (0, 0))) := ⟨by rw [← hW23]; simpa [St.arr] using (blk_set (blk_set (blk_set (blk_set (blk_set (blk_set (blk_below N18.out B22.out) 0 (.int .i64 s2.a)) 1 (.int .i64 s2.b)) 2 (.int .i64 s2.c)) 3 (.int .i64 s2.d)) 4 (.int .i64 s2.e)) 5 (.int .i64 s2.f))⟩
              have T23 : Aside0 (W23.heap[b13]? = some (.cells s2.arr 23 (0, 0))) := ⟨by rw [← hW23]; exact (blk_far (p := ⟨b6, 5, none⟩) (blk_far (p := ⟨b6, 4, none⟩) (blk_far (p := ⟨b6, 3, none⟩) (blk_far (p := ⟨b6, 2, none⟩) (blk_far (p := ⟨b6, 1, none⟩) (blk_far (p := ⟨b6, 0, none⟩) (blk_below H13.out B22.out) n613.out _) n613.out _) n613.out _) n613.out _) n613.out _) n613.out _)⟩
              have BK23 : Aside0 (IsB w.heap.size W23 g F cl s2 t) := ⟨by rw [← hW23]; exact BK18.out.kept (((((((Kept.of_below B22.out (fun i => i = b6)).setCell (p := ⟨b6, 0, none⟩) (.inl rfl) _).setCell (p := ⟨b6, 1, none⟩) (.inl rfl) _).setCell (p := ⟨b6, 2, none⟩) (.inl rfl) _).setCell (p := ⟨b6, 3, none⟩) (.inl rfl) _).setCell (p := ⟨b6, 4, none⟩) (.inl rfl) _).setCell (p := ⟨b6, 5, none⟩) (.inl rfl) _) (fun i hi he => NFS.out (he ▸ hi))⟩
              have Q23 : Aside0 ((Kd.fixed (Kd.slice 28 k28) w).Q 24 W23 w.heap.size (fun k => ¬ F k ∧ k ≠ b6) (.slice A1 t.length c1) t) := ⟨by rw [← hW23]; exact (Kd.Q_far (p := ⟨b6, 5, none⟩) (Kd.Q_far (p := ⟨b6, 4, none⟩) (Kd.Q_far (p := ⟨b6, 3, none⟩) (Kd.Q_far (p := ⟨b6, 2, none⟩) (Kd.Q_far (p := ⟨b6, 1, none⟩) (Kd.Q_far (p := ⟨b6, 0, none⟩) (Kd.Q_below Q1.out B22.out) (fun _ hk => hk.2) _) (fun _ hk => hk.2) _) (fun _ hk => hk.2) _) (fun _ hk => hk.2) _) (fun _ hk => hk.2) _) (fun _ hk => hk.2) _)⟩
              have L23 : Aside0 (Below w.heap.size w W23) := ⟨by rw [← hW23]; exact (((((((below_then L18.out L18.out.size B22.out).setCell (p := ⟨b6, 0, none⟩) GE.out _).setCell (p := ⟨b6, 1, none⟩) GE.out _).setCell (p := ⟨b6, 2, none⟩) GE.out _).setCell (p := ⟨b6, 3, none⟩) GE.out _).setCell (p := ⟨b6, 4, none⟩) GE.out _).setCell (p := ⟨b6, 5, none⟩) GE.out _)⟩
              clear hW23
              have zz0 : W23.cell? ⟨b6, 0, none⟩ = some (.int .i64 s2.a) := blk_cell N23.out 0
              have zz1 : W23.cell? ⟨b6, 1, none⟩ = some (.int .i64 s2.b) := blk_cell N23.out 1
              have zz2 : W23.cell? ⟨b6, 2, none⟩ = some (.int .i64 s2.c) := blk_cell N23.out 2
              have zz3 : W23.cell? ⟨b6, 3, none⟩ = some (.int .i64 s2.d) := blk_cell N23.out 3
              have zz4 : W23.cell? ⟨b6, 4, none⟩ = some (.int .i64 s2.e) := blk_cell N23.out 4
              have zz5 : W23.cell? ⟨b6, 5, none⟩ = some (.int .i64 s2.f) := blk_cell N23.out 5
              have zt0 : W23.cell? ⟨b13, 0, none⟩ = some (.int .i64 s2.a) := blk_cell T23.out 0
              have zt1 : W23.cell? ⟨b13, 1, none⟩ = some (.int .i64 s2.b) := blk_cell T23.out 1
              have zt2 : W23.cell? ⟨b13, 2, none⟩ = some (.int .i64 s2.c) := blk_cell T23.out 2
              have zt3 : W23.cell? ⟨b13, 3, none⟩ = some (.int .i64 s2.d) := blk_cell T23.out 3
              have zt4 : W23.cell? ⟨b13, 4, none⟩ = some (.int .i64 s2.e) := blk_cell T23.out 4
              have zt5 : W23.cell? ⟨b13, 5, none⟩ = some (.int .i64 s2.f) := blk_cell T23.out 5
              go_wp2_with fail
              go_meet
              case rel => exact ⟨F, s2, t, ⟨⟨N23.out, BK23.out, Q23.out, NFS.out, GE.out, L23.out⟩⟩⟩
          · have h2b : (K == 2) = false := beq_eq_false_iff_ne.mpr h2
            have H2 := Aside0.mk h2
            clear h2
            go_wp2_with fail
            go_meet
            case rel => exact ⟨F, s, wait, HI⟩
        case rest =>
          clear HI HX HFX
          obtain ⟨F, s, wait, HI⟩ := hcut
          obtain ⟨V7, C7, hv7, hcv7⟩ := Kd.Q_slice HI.out.row
          subst hv7
          clear hcv7
          go_upto_region 26 with fail
          have c0 : wc.cell? ⟨b6, 0, none⟩ = some (.int .i64 s.a) := blk_cell HI.out.now 0
          have c1 : wc.cell? ⟨b6, 1, none⟩ = some (.int .i64 s.b) := blk_cell HI.out.now 1
          have c2 : wc.cell? ⟨b6, 2, none⟩ = some (.int .i64 s.c) := blk_cell HI.out.now 2
          have c3 : wc.cell? ⟨b6, 3, none⟩ = some (.int .i64 s.d) := blk_cell HI.out.now 3
          have c4 : wc.cell? ⟨b6, 4, none⟩ = some (.int .i64 s.e) := blk_cell HI.out.now 4
          have c5 : wc.cell? ⟨b6, 5, none⟩ = some (.int .i64 s.f) := blk_cell HI.out.now 5
          have c6 : HInv w wc.drew b6 g F (.slice V7 wait.length C7) cl s wait := HI.out.below (below_drew (Below.refl _ _))
          refine start_ (n := 11) (S := fun w' => w'.cell? ⟨b6, 0, none⟩ = some (.int .i64 s.a) ∧ w'.cell? ⟨b6, 1, none⟩ = some (.int .i64 s.b) ∧ w'.cell? ⟨b6, 2, none⟩ = some (.int .i64 s.c) ∧ w'.cell? ⟨b6, 3, none⟩ = some (.int .i64 s.d) ∧ w'.cell? ⟨b6, 4, none⟩ = some (.int .i64 s.e) ∧ w'.cell? ⟨b6, 5, none⟩ = some (.int .i64 s.f) ∧ HInv w w' b6 g F (.slice V7 wait.length C7) cl s wait) (ds := []) #[false, false, false, false, false, false, false, false, false, false, false] (by kernel_rfl) rfl rfl ⟨c0, c1, c2, c3, c4, c5, c6⟩ (fun hHeld => ?_)
          refine pure_ (i := 0) (N := some 107) (v := ?_) (a' := ?_) #[true, false, false, false, false, false, false, false, false, false, false] rfl rfl (by kernel_rfl) (fun _ _ _ h => h) (Or.inl ⟨by rfl, ?_⟩) ?_ ?_
          rotate_left
          · intro w'
            go_simp
            with_reducible rfl
          rotate_left
          · simp only [Act.put, List.setIfInBounds_toArray, List.set_cons_zero, List.set_cons_succ, i64_w, i32_w]
            rfl
          refine take_ (i := 2) (N := some 109) (v := ?_) (a' := ?_) #[true, false, true, false, false, false, false, false, false, false, false] rfl rfl (by kernel_rfl) (fun _ _ _ h => h) (Or.inl ⟨by rfl, ?_⟩) hHeld ?_ ?_
          rotate_left
          · rintro w' ⟨s0, s1, s2, s3, s4, s5, s6⟩
            go_simp
            with_reducible rfl
          rotate_left
          · simp only [Act.put, List.setIfInBounds_toArray, List.set_cons_zero, List.set_cons_succ, i64_w, i32_w]
            rfl
          refine one_ (i := 1) (N := some 108) #[true, true, true, false, false, false, false, false, false, false, false] rfl rfl (by kernel_rfl) (by decide) (fun K hK => ?_)
          refine goes_ Tryd.func28 (by kernel_rfl) rfl #[.pointer (some ⟨g, 0, none⟩)] (by rfl) rfl rfl (by simp only [List.map_toArray, List.map_cons, List.map_nil]; rfl) ?_
          with_reducible refine (acked_ex w.heap.size g F cl s wait _ (hHeld.2.2.2.2.2.2).book).mono ?_
          rintro e w3 ⟨rfl, hb⟩
          refine ⟨_, rfl, ?_⟩
          refine hK.out _ _ ⟨(hb.cell (World.block_lt_of_cell? _ _ hHeld.1)).trans hHeld.1, (hb.cell (World.block_lt_of_cell? _ _ hHeld.2.1)).trans hHeld.2.1, (hb.cell (World.block_lt_of_cell? _ _ hHeld.2.2.1)).trans hHeld.2.2.1, (hb.cell (World.block_lt_of_cell? _ _ hHeld.2.2.2.1)).trans hHeld.2.2.2.1, (hb.cell (World.block_lt_of_cell? _ _ hHeld.2.2.2.2.1)).trans hHeld.2.2.2.2.1, (hb.cell (World.block_lt_of_cell? _ _ hHeld.2.2.2.2.2.1)).trans hHeld.2.2.2.2.2.1, HInv.below hHeld.2.2.2.2.2.2 hb⟩ (fun hHeld => ?_)
          clear hK K
          refine norm_ (a' := ?_) ?_ ?_
          rotate_left
          · show Act.put _ (some 108) _ = _
            simp only [Act.put, List.setIfInBounds_toArray, List.set_cons_zero, List.set_cons_succ, i64_w, i32_w]
            rfl
          refine pure_ (i := 3) (N := some 110) (v := ?_) (a' := ?_) #[true, true, true, true, false, false, false, false, false, false, false] rfl rfl (by kernel_rfl) (fun _ _ _ h => h) (Or.inl ⟨by rfl, ?_⟩) ?_ ?_
          rotate_left
          · intro w'
            go_simp
            with_reducible rfl
          rotate_left
          · simp only [Act.put, List.setIfInBounds_toArray, List.set_cons_zero, List.set_cons_succ, i64_w, i32_w]
            rfl
          refine pure_ (i := 4) (N := some 111) (v := ?_) (a' := ?_) #[true, true, true, true, true, false, false, false, false, false, false] rfl rfl (by kernel_rfl) (fun _ _ _ h => h) (Or.inl ⟨by rfl, ?_⟩) ?_ ?_
          rotate_left
          · intro w'
            go_simp
            with_reducible rfl
          rotate_left
          · simp only [Act.put, List.setIfInBounds_toArray, List.set_cons_zero, List.set_cons_succ, i64_w, i32_w]
            rfl
          refine pure_ (i := 5) (N := some 112) (v := ?_) (a' := ?_) #[true, true, true, true, true, true, false, false, false, false, false] rfl rfl (by kernel_rfl) (fun _ _ _ h => h) (Or.inl ⟨by rfl, ?_⟩) ?_ ?_
          rotate_left
          · intro w'
            go_simp
            with_reducible rfl
          rotate_left
          · simp only [Act.put, List.setIfInBounds_toArray, List.set_cons_zero, List.set_cons_succ, i64_w, i32_w]
            rfl
          refine pure_ (i := 7) (N := some 114) (v := ?_) (a' := ?_) #[true, true, true, true, true, true, false, true, false, false, false] rfl rfl (by kernel_rfl) (fun _ _ _ h => h) (Or.inl ⟨by rfl, ?_⟩) ?_ ?_
          rotate_left
          · intro w'
            go_simp
            with_reducible rfl
          rotate_left
          · simp only [Act.put, List.setIfInBounds_toArray, List.set_cons_zero, List.set_cons_succ, i64_w, i32_w]
            rfl
          refine pure_ (i := 8) (N := some 115) (v := ?_) (a' := ?_) #[true, true, true, true, true, true, false, true, true, false, false] rfl rfl (by kernel_rfl) (fun _ _ _ h => h) (Or.inl ⟨by rfl, ?_⟩) ?_ ?_
          rotate_left
          · intro w'
            go_simp
            with_reducible rfl
          rotate_left
          · simp only [Act.put, List.setIfInBounds_toArray, List.set_cons_zero, List.set_cons_succ, i64_w, i32_w]
            rfl
          refine one_ (i := 6) (N := some 113) #[true, true, true, true, true, true, true, true, true, false, false] rfl rfl (by kernel_rfl) (by decide) (fun K hK => ?_)
          refine goes_ Tryd.func34 (by kernel_rfl) rfl #[.pointer (some ⟨g, 0, none⟩)] (by rfl) rfl rfl (by simp only [List.map_toArray, List.map_cons, List.map_nil]; rfl) ?_
          with_reducible refine (waiting_calls w.heap.size g F cl s wait _ (hHeld.2.2.2.2.2.2).book).mono ?_
          rintro e w3 ⟨rfl, hb⟩
          refine ⟨_, rfl, ?_⟩
          refine hK.out _ _ ⟨(hb.cell (World.block_lt_of_cell? _ _ hHeld.1)).trans hHeld.1, (hb.cell (World.block_lt_of_cell? _ _ hHeld.2.1)).trans hHeld.2.1, (hb.cell (World.block_lt_of_cell? _ _ hHeld.2.2.1)).trans hHeld.2.2.1, (hb.cell (World.block_lt_of_cell? _ _ hHeld.2.2.2.1)).trans hHeld.2.2.2.1, (hb.cell (World.block_lt_of_cell? _ _ hHeld.2.2.2.2.1)).trans hHeld.2.2.2.2.1, (hb.cell (World.block_lt_of_cell? _ _ hHeld.2.2.2.2.2.1)).trans hHeld.2.2.2.2.2.1, HInv.below hHeld.2.2.2.2.2.2 hb⟩ (fun hHeld => ?_)
          clear hK K
          refine norm_ (a' := ?_) ?_ ?_
          rotate_left
          · show Act.put _ (some 113) _ = _
            simp only [Act.put, List.setIfInBounds_toArray, List.set_cons_zero, List.set_cons_succ, i64_w, i32_w]
            rfl
          refine pure_ (i := 9) (N := some 116) (v := ?_) (a' := ?_) #[true, true, true, true, true, true, true, true, true, true, false] rfl rfl (by kernel_rfl) (fun _ _ _ h => h) (Or.inl ⟨by rfl, ?_⟩) ?_ ?_
          rotate_left
          · intro w'
            go_simp
            with_reducible rfl
          rotate_left
          · simp only [Act.put, List.setIfInBounds_toArray, List.set_cons_zero, List.set_cons_succ, i64_w, i32_w]
            rfl
          refine pure_ (i := 10) (N := some 117) (v := ?_) (a' := ?_) #[true, true, true, true, true, true, true, true, true, true, true] rfl rfl (by kernel_rfl) (fun _ _ _ h => h) (Or.inl ⟨by rfl, ?_⟩) ?_ ?_
          rotate_left
          · intro w'
            go_simp
            with_reducible rfl
          rotate_left
          · simp only [Act.put, List.setIfInBounds_toArray, List.set_cons_zero, List.set_cons_succ, i64_w, i32_w]
            rfl
          refine done_ (by kernel_rfl) ?_
          go_wp2_with fail
          go_roundw
          case rel => exact ⟨k + 1, F, s, wait, by omega, by go_num, ⟨hHeld.2.2.2.2.2.2⟩⟩
          case measure => simp [intOf]; omega
      
    · have hlt2 : decide ((k : Int) < (l.length : Int)) = false := decide_eq_false (by omega)
      go_wp2_with fail
      go_ret
      exact ⟨rfl, HI.out.low⟩
end Go.Proofs.YtcjphkgmcfpfeaaDoor.MS
