/- The document's share: Drop. The list fits in memory. -/
import Derived.Test.YtedkjbdkokdgdaaMDocB
namespace Go.Proofs.Ytedkjbdkokdgdaa.Sh
open Go Go.RowKit Go.Proofs.YtedkjbdkokdgdaaW.PrintWords Go.Proofs.YtedkjbdkokdgdaaW.PrintLast Go.Proofs.YtedkjbdkokdgdaaW.PrintMore Go.Proofs.Ytedkjbdkokdgdaa.QL
set_option linter.unusedSimpArgs false
set_option linter.unusedVariables false
set_option maxHeartbeats 2000000
set_option maxRecDepth 100000
theorem get_at {D : List S72} {i : Nat} (hi : i < D.length) : D.getD i z72 = D[i] := by rw [List.getD_eq_getElem?_getD, List.getElem?_eq_getElem hi]; rfl
theorem DR.erase {D : List S72} {m : Int → Qu} (h : DR D m) {id : Int} {i : Nat} (hi : i < D.length) (he : (D.getD i z72).f0 = id) : DR (D.take i ++ D.drop (i + 1)) (updM m id Qu.zero) := by
  rw [get_at hi] at he
  have hs : D = D.take i ++ D[i] :: D.drop (i + 1) := by rw [← List.drop_eq_getElem_cons hi, List.take_append_drop]
  have hnd := h.nd
  rw [hs, List.map_append, List.map_cons] at hnd
  rw [List.nodup_append] at hnd
  obtain ⟨n1, n2, n3⟩ := hnd
  rw [List.nodup_cons] at n2
  have hne : ∀ z ∈ D.take i ++ D.drop (i + 1), z.f0 ≠ id := by
    intro z hz e
    rcases List.mem_append.1 hz with hz | hz
    · exact n3 z.f0 (List.mem_map.2 ⟨z, hz, rfl⟩) D[i].f0 List.mem_cons_self (by rw [e, he])
    · exact n2.1 (List.mem_map.2 ⟨z, hz, by rw [e, he]⟩)
  refine ⟨?_, fun z hz => ?_, fun id2 hn => ?_⟩
  · rw [List.map_append, List.nodup_append]
    exact ⟨n1, n2.2, fun a ha b hb => n3 a ha b (List.mem_cons_of_mem _ hb)⟩
  · rw [upd_else _ _ (hne z hz)]
    apply h.at_ z
    rcases List.mem_append.1 hz with hz | hz
    · exact List.mem_of_mem_take hz
    · exact List.mem_of_mem_drop hz
  · by_cases e : id2 = id
    · rw [e]; exact upd_same _ _ _
    · rw [upd_else _ _ e]
      apply h.no id2
      intro hm
      apply hn
      rw [hs, List.map_append, List.map_cons] at hm
      rw [List.map_append]
      rcases List.mem_append.1 hm with hm | hm
      · exact List.mem_append.2 (Or.inl hm)
      · rcases List.mem_cons.1 hm with hm | hm
        · exact absurd (hm.trans he) e
        · exact List.mem_append.2 (Or.inr hm)
theorem upd_zero {m : Int → Qu} {id : Int} (h : m id = Qu.zero) : updM m id Qu.zero = m := by
  funext z
  unfold updM
  split
  · rename_i e; rw [e, h]
  · rfl
theorem info72s : ∃ i0, Try.prog.info? 72 = some i0 ∧ i0.size = 4 := by
  obtain ⟨i0, hi0, hh⟩ := Option.map_eq_some_iff.1 info72
  simp only [Prod.mk.injEq] at hh
  exact ⟨i0, hi0, hh.2.1⟩
theorem bare_sz (s : ByteArray) : s.toList.isEmpty = decide (s.size = 0) := by
  have h := bare_eq s
  unfold bare at h
  rw [h]
  have e : s.size = s.data.toList.length := by rw [Array.length_toList]; rfl
  rw [e]
  cases s.data.toList <;> simp
theorem dropd_calls (q B : Nat) (v : Value) (D : List S72) (m : Int → Qu) (id : Int) (r : Bool) (w : World) (h : DocAt w q B v D) (hd : DR D m) (hB : B ≤ w.heap.size) (hl : (D.length + 1) * 32 ≤ 140737488355328) (hx : (!(m id).t.toList.isEmpty || (m id).e) = r) :
    Calls Try.prog 23 #[.pointer (some ⟨q, 0, none⟩), .int .i64 id] w fun e' w' => e' = .returned (.bool r) ∧ DocPost w w' q B v (D.length + 1) (updM m id Qu.zero) := by
  have HB := Aside0.mk (Below.refl w.heap.size w)
  have H := Aside0.mk h
  have HD := Aside0.mk hd
  have HBB := Aside0.mk hB
  have HLL := Aside0.mk hl
  have HX := Aside0.mk hx
  clear h hd hB hl hx
  go_enter Try.func23, Try.ntmps23
  go_upto_region 2 with (go_at_call 31; refine (at_calls q B v D id _ H.out).mono ?_; rintro e w1 ⟨⟨r1, rfl, hp⟩, rfl⟩; have HP := Aside0.mk hp; clear hp)
  rcases HP.out with ⟨rfl, hn⟩ | ⟨i, rfl, hi, he⟩
  · have hz := HD.out.no id hn
    have hr := HX.out
    rw [hz, zero_t] at hr
    obtain rfl : false = r := hr
    have HU : Aside0 (updM m id Qu.zero = m) := ⟨upd_zero hz⟩
    clear hn hz HP
    go_wp2_with fail
    go_ret
    exact ⟨rfl, by rw [HU.out]; exact DocPost.same H.out HD.out (Nat.le_succ _) HB.out⟩
  · obtain ⟨g, c, rfl, _, _, _⟩ := Kd.R_form H.out.row (by omega)
    have d1 : decide ((i : Int) < 0) = false := decide_eq_false (by omega)
    have HI := Aside0.mk hi
    have HE := Aside0.mk he
    clear hi he HP
    have HXX := HX.out
    obtain ⟨ms, hms⟩ : ∃ s, (m id).t.size = s := ⟨_, rfl⟩
    obtain ⟨me, hme⟩ : ∃ s, (m id).e = s := ⟨_, rfl⟩
    rw [bare_sz, hms, hme] at HXX
    have HMS := Aside0.mk hms
    have HME := Aside0.mk hme
    go_upto_region 5 with (go_at_call 24; refine (waitsd_calls q B _ D m id _ H.out HD.out).mono ?_; rintro e w2 ⟨rfl, hb⟩; rw [HMS.out, HME.out]; have H2 := Aside0.mk (H.out.low hb); have L2 := Aside0.mk hb; clear hb)
    clear hms hme d1
    obtain ⟨hn, hc, hC⟩ := Kd.R_reads' H2.out.row
    have HC2 := Aside0.mk hC
    have HCC := Aside0.mk hc
    have z0 := blk_cell H2.out.blk 0
    obtain ⟨i0, hi0, hsz0⟩ := info72s
    have hcut14 : ∀ W, (Instr.slice 61 (.slice (some ⟨g, 0, none⟩) D.length c) none (some (.int .i64 (i : Int))) none).run Try.prog W = .ok (.slice (some ⟨g, 0, none⟩) i c) W := by
      have h := cut_to (P := Try.prog) 61 72 .i64 Try.underlying61 hi0 (some ⟨g, 0, none⟩) D.length c (i : Int) (by omega) (by have := HI.out; omega) hc
      rwa [Int.toNat_natCast] at h
    have e16 : wrap64 ((i : Int) + 1) = ((i + 1 : Nat) : Int) := by have := HI.out; have := HLL.out; unfold wrap64; omega
    obtain ⟨A16, hA16⟩ : ∃ A, (if c = i + 1 then some (⟨g, 0, none⟩ : Addr) else (some (⟨g, 0, none⟩ : Addr)).map (·.add ((i + 1) * 4))) = A := ⟨_, rfl⟩
    obtain ⟨n16, hn16⟩ : ∃ n, D.length - (i + 1) = n := ⟨_, rfl⟩
    obtain ⟨c16, hc16⟩ : ∃ n, c - (i + 1) = n := ⟨_, rfl⟩
    have hcut16 : ∀ W, (Instr.slice 61 (.slice (some ⟨g, 0, none⟩) D.length c) (some (.int .i64 (wrap64 ((i : Int) + 1)))) none none).run Try.prog W = .ok (.slice A16 n16 c16) W := by
      rw [e16, ← hA16, ← hc16, ← hn16]
      have h := cut_from (P := Try.prog) 61 72 .i64 Try.underlying61 hi0 4 hsz0 (some ⟨g, 0, none⟩) D.length c ((i + 1 : Nat) : Int) (by omega) (by have := HI.out; omega)
      rwa [Int.toNat_natCast] at h
    have hcut17 : ∀ W, (Instr.slice 61 (.slice (some ⟨g, 0, none⟩) D.length c) (some (.int .i64 ((i : Int) + 1))) none none).run Try.prog W = .ok (.slice A16 n16 c16) W := by
      have e : wrap64 ((i : Int) + 1) = (i : Int) + 1 := by rw [e16]; omega
      rw [e] at hcut16; exact hcut16
    have T15 : Aside0 (Kd.C k72 w2 (some ⟨g, 0, none⟩) i (D.take i)) := ⟨by
      have h := Kd.C_take (m := i) HC2.out (by have := HI.out; omega)
      rwa [show (D.take i).length = i by rw [List.length_take]; have := HI.out; omega] at h⟩
    have T16 : Aside0 (Kd.C k72 w2 A16 n16 (D.drop (i + 1))) := ⟨by
      have h := Kd.C_drop (m := i + 1) (c := c) HC2.out (by have := HI.out; omega) HCC.out
      rw [← hA16, ← hn16]
      rwa [List.length_drop] at h⟩
    have HN16 : Aside0 (D.length - (i + 1) = n16) := ⟨hn16⟩
    have LB2 : Aside0 (Below B w w2) := ⟨L2.out.mono HBB.out⟩
    have SB2 : Aside0 (B ≤ w2.heap.size) := ⟨Nat.le_trans HBB.out L2.out.size⟩
    clear hn hc hC hi0 hsz0 hA16 hn16 hc16
    go_upto_region 8 with (first
      | ((with_reducible refine gate_builtin (b := .append) (xs := #[.tmp 28, .tmp 35]) rfl ?_); at_builtin; refine Kd.R_append_rows k72 (w0 := w) B rfl (.tmp 28) (.tmp 35) 61 72 _ 32 rfl Try.underlying61 info72 rfl (Nat.succ_pos 3) (Nat.succ_pos 31) v3 (D.take i) (D.drop (i + 1)) A16 n16 c16 (fun _ => True) (fun _ => False) rfl rfl R3.out (Kd.C_below T16.out G3.out) (fun _ cs h => by rw [k72_open h]; exact k72_mkM _ _ _ _) (fun _ h => h.elim) (fun _ _ => trivial) B3.out S3.out (by have := HI.out; have := HN16.out; have := HLL.out; rw [List.length_take]; omega) ?_; intro v4 w4 ho hb hg hat; have R4 := Aside0.mk ho; have G4 := Aside0.mk hg; have T4 := Aside0.mk hat; clear ho hb hg hat)
      | ((with_reducible refine gate_builtin (b := .append) (xs := #[.tmp 20, .tmp 26]) rfl ?_); at_builtin; refine Kd.R_append_rows k72 (w0 := w) B rfl (.tmp 20) (.tmp 26) 61 72 _ 32 rfl Try.underlying61 info72 rfl (Nat.succ_pos 3) (Nat.succ_pos 31) (.slice none 0 0) [] (D.take i) (some ⟨g, 0, none⟩) i c (fun _ => True) (fun _ => False) rfl rfl (Kd.R_nil _ _ _ _ _) T15.out (fun _ cs h => by rw [k72_open h]; exact k72_mkM _ _ _ _) (fun _ h => h.elim) (fun _ _ => trivial) LB2.out SB2.out (by have := HI.out; have := HLL.out; simp; omega) ?_; intro v3 w3 ho hb hg hat; rw [List.nil_append] at ho; have R3 := Aside0.mk ho; have B3 := Aside0.mk hb; have S3 := Aside0.mk (Nat.le_trans SB2.out hg.size); have G3 : Aside0 (Below w2.heap.size w2 w3) := ⟨⟨hg.os, hg.tape, hg.output, hg.size, fun k hk => hg.block k hk (by intro e; cases e)⟩⟩; have T3 := Aside0.mk hat; have X3 := Aside0.mk (blk_below H2.out.blk G3.out); have y0 := blk_cell X3.out 0; clear ho hb hg hat))
    clear hcut14 hcut16 hcut17 e16 z0 y0 T15 T16
    have HQ4 : Aside0 (∀ k, v4.ownBlock = some k → w2.heap.size ≤ k) := ⟨fun k hk => by
      have h3 : ∀ b, v3.ownBlock = some b → w2.heap.size ≤ b := fun b hb => by
        rcases T3.out with h | ⟨b', h, hb'⟩
        · rw [h] at hb; cases hb
        · rw [h] at hb; injection hb with hb; omega
      rcases T4.out with h | ⟨b', h, hb'⟩
      · exact h3 k (by rw [← h]; exact hk)
      · rw [h] at hk; injection hk with hk; have := G3.out.size; omega⟩
    have H3O : Aside0 (∀ k, v3.ownBlock = some k → w2.heap.size ≤ k) := ⟨fun b hb => by
        rcases T3.out with h | ⟨b', h, hb'⟩
        · rw [h] at hb; cases hb
        · rw [h] at hb; injection hb with hb; omega⟩
    have X4 := Aside0.mk (blk_grown X3.out G4.out (by intro e; have := H3O.out q e.symm; have := blk_lt H2.out.blk; omega))
    have F4 : Aside0 (Fr w w4 (fun k => k = q ∨ (Value.slice (some ⟨g, 0, none⟩) D.length c).ownBlock = some k)) := ⟨((Fr.of_below L2.out _).low G3.out).then_ (Fr.of_grown G4.out (S := fun k => v3.ownBlock = some k) (fun k e => e)) (fun k e => Or.inr (by have := H3O.out k e; have := L2.out.size; omega))⟩
    obtain ⟨D4, hD4⟩ : ∃ L, D.take i ++ D.drop (i + 1) = L := ⟨_, rfl⟩
    have HD4 : Aside0 (DR D4 (updM m id Qu.zero)) := ⟨by rw [← hD4]; exact HD.out.erase HI.out HE.out⟩
    have HL4 : Aside0 (D4.length ≤ D.length + 1) := ⟨by rw [← hD4, List.length_append, List.length_take, List.length_drop]; omega⟩
    rw [hD4] at R4
    obtain ⟨A4, c4, rfl, _, _⟩ := Kd.R_reads R4.out
    clear hD4 T3 T4 G4 R3 B3 S3
    have y0 := blk_cell X4.out 0
    have y1 := blk_frozen X4.out 0
    go_upto_region 9 with fail
    generalize hWn : World.setCell _ _ _ = Wn
    have HA : Aside0 (DocAt Wn q B (.slice A4 D4.length c4) D4) := ⟨by
      rw [← hWn]
      exact ⟨blk_put X4.out 0 _ rfl, Kd.R_mono (Kd.R_step (Kd.R_tight rfl R4.out) (fun k hk _ => Below.heap_setCell _ _ _ _ (fun e => Kd.R_ne R4.out X4.out (by decide) (by rw [← hk]; exact congrArg some e.symm)))) (fun _ _ => trivial)⟩⟩
    have FA : Aside0 (Fr w Wn (fun k => k = q ∨ (Value.slice (some ⟨g, 0, none⟩) D.length c).ownBlock = some k)) := ⟨F4.out.then_ (by rw [← hWn]; exact fr_set w4 _ _) (fun k e => Or.inl (Or.inl e))⟩
    clear hWn y0 y1
    have HO4 : Aside0 (∀ k, (Value.slice A4 D4.length c4).ownBlock = some k → (Value.slice (some ⟨g, 0, none⟩) D.length c).ownBlock = some k ∨ w.heap.size ≤ k) := ⟨fun k hk => Or.inr (Nat.le_trans L2.out.size (HQ4.out k hk))⟩
    by_cases hs : 0 < ms
    · have d1 : decide ((0 : Int) < (ms : Int)) = true := decide_eq_true (by omega)
      have d2 : decide (0 < ms) = true := decide_eq_true hs
      have HR : Aside0 (true = r) := ⟨by rw [← HXX, decide_eq_false (by omega)]; rfl⟩
      go_wp2_with fail
      go_ret
      exact ⟨by rw [← HR.out]; rfl, _, _, HA.out, HD4.out, HL4.out, FA.out, HO4.out⟩
    · have d1 : decide ((0 : Int) < (ms : Int)) = false := decide_eq_false (by omega)
      have d2 : decide (0 < ms) = false := decide_eq_false hs
      have HR : Aside0 (me = r) := ⟨by rw [← HXX, decide_eq_true (by omega)]; cases me <;> rfl⟩
      go_wp2_with fail
      go_ret
      exact ⟨by rw [← HR.out]; rfl, _, _, HA.out, HD4.out, HL4.out, FA.out, HO4.out⟩
end Go.Proofs.Ytedkjbdkokdgdaa.Sh
