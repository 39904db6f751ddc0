/- The document's share: Put. The list fits in memory. -/
import Derived.Test.YtedkjbdkokdgdaaMDocA
import Derived.RegionTactic
namespace Go.Proofs.Ytedkjbdkokdgdaa.Sh
open Go Go.RowKit Go.Proofs.YtedkjbdkokdgdaaW.PrintWords Go.Proofs.YtedkjbdkokdgdaaW.PrintLast Go.Proofs.YtedkjbdkokdgdaaW.PrintMore Go.Proofs.Ytedkjbdkokdgdaa.QL
set_option linter.unusedSimpArgs false
set_option linter.unusedVariables false
set_option maxHeartbeats 2000000
set_option maxRecDepth 100000
theorem fr_set (w : World) (p : Addr) (u : Value) : Fr w (w.setCell p u) (fun k => k = p.block) := ⟨rfl, rfl, rfl, by simp [World.setCell], fun k _ hn => Below.heap_setCell _ _ _ _ hn⟩
section
variable {W W1 : World} {q B g n c i : Nat} {D : List S72} {x : S72}
theorem doc_elem (h : DocAt W q B (.slice (some ⟨g, 0, none⟩) n c) D) (hi : i < n) (hx : D.getD i z72 = x) :
    W.cell? ⟨g, i * 4 + 1, none⟩ = some (.string x.f1) ∧ W.cell? ⟨g, i * 4 + 2, none⟩ = some (.bool x.f2) ∧ W.cell? ⟨g, i * 4 + 3, none⟩ = some (.bool x.f3) ∧ ∀ j, W.frozen? ⟨g, i * 4 + j, none⟩ = false := by
  obtain ⟨cc, hcl, hcM, hcc, hcf⟩ := Kd.R_elem h.row z72 (i : Int) (by omega) (by omega)
  rw [Int.toNat_natCast, hx] at hcM
  obtain rfl := k72_openM hcM
  rw [Int.toNat_natCast] at hcc hcf
  exact ⟨hcc 1 _ rfl, hcc 2 _ rfl, hcc 3 _ rfl, hcf⟩
theorem doc_set (h : DocAt W q B (.slice (some ⟨g, 0, none⟩) n c) D) (hi : i < n) (hx : D.getD i z72 = x) {j : Nat} {u : Value} {y : S72} (hj : j + 1 ≤ 4)
    (hy : [Value.int .i64 x.f0, .string x.f1, .bool x.f2, .bool x.f3].take j ++ [u] ++ [Value.int .i64 x.f0, .string x.f1, .bool x.f2, .bool x.f3].drop (j + 1) = [.int .i64 y.f0, .string y.f1, .bool y.f2, .bool y.f3]) (e : W.setCell ⟨g, i * 4 + j, none⟩ u = W1) :
    DocAt W1 q B (.slice (some ⟨g, 0, none⟩) n c) (D.set i y) ∧ Fr W W1 (fun k => k = g) := by
  subst e
  obtain ⟨cc, hcl, hcM, hcc, hcf⟩ := Kd.R_elem h.row z72 (i : Int) (by omega) (by omega)
  rw [Int.toNat_natCast, hx] at hcM
  obtain rfl := k72_openM hcM
  have hh := Kd.R_seg (seg := [u]) (j := j) (okp := fun _ => False) (x' := y) h.row (i : Int) (by omega) (by omega) hcl hcc hj (by have h9 := k72_mkM W B (fun _ => False) y; rw [← hy] at h9; exact h9) (fun _ h => h.elim)
  rw [Int.toNat_natCast] at hh
  refine ⟨⟨blk_grown h.blk hh.2 ?_, hh.1⟩, fr_set W _ u⟩
  have := h.ne
  simpa [Value.ownBlock] using this
end
theorem DR.set {D : List S72} {m : Int → Qu} (h : DR D m) {id : Int} {i : Nat} (hi : i < D.length) (he : (D.getD i z72).f0 = id) (y : S72) (hy : y.f0 = id) (h3 : y.f3 = true → y.f2 = true ∧ y.f1.size = 0) : DR (D.set i y) (updM m id ⟨y.f1, y.f2, y.f2 && !y.f3⟩) := by
  have hp := h.pos hi he
  have hg : D.getD i z72 = D[i] := by rw [List.getD_eq_getElem?_getD, List.getElem?_eq_getElem hi]; rfl
  have hmap : (D.set i y).map (·.f0) = D.map (·.f0) := by
    rw [List.map_set]
    apply List.ext_getElem
    · simp
    · intro k h1 h2
      rw [List.getElem_set]
      split
      · rename_i hk; subst hk; rw [List.getElem_map, hy, ← he, hg]
      · rfl
  refine ⟨by rw [hmap]; exact h.nd, fun z hz => ?_, fun id2 hn => ?_⟩
  · rw [List.mem_iff_getElem] at hz
    obtain ⟨k, hk, rfl⟩ := hz
    rw [List.length_set] at hk
    rw [List.getElem_set]
    split
    · rw [hy]
      exact ⟨hp.1, upd_same _ _ _, h3⟩
    · rename_i hne
      have hz := h.at_ _ (List.getElem_mem hk)
      refine ⟨hz.1, ?_, hz.2.2⟩
      rw [upd_else]
      · exact hz.2.1
      · intro e
        rw [← he, hg] at e
        have hnd := h.nd
        rw [List.nodup_iff_pairwise_ne, List.pairwise_iff_getElem] at hnd
        rcases Nat.lt_or_gt_of_ne hne with h1 | h1
        · exact hnd i k (by simpa using hi) (by simpa using hk) h1 (by simpa using e.symm)
        · exact hnd k i (by simpa using hk) (by simpa using hi) h1 (by simpa using e)
  · rw [hmap] at hn
    rw [upd_else _ _ (by
      rintro rfl
      apply hn
      rw [← he, hg]
      exact List.mem_map.2 ⟨_, List.getElem_mem hi, rfl⟩)]
    exact h.no id2 hn
theorem DR.snoc {D : List S72} {m : Int → Qu} (h : DR D m) {id : Int} (hn : id ∉ D.map (·.f0)) (hid : In31 id) : DR (D ++ [⟨id, ByteArray.empty, false, false⟩]) m := by
  refine ⟨?_, fun z hz => ?_, fun id2 h2 => ?_⟩
  · rw [List.map_append]
    exact List.nodup_append.2 ⟨h.nd, by simp, fun a ha b hb => by rw [List.mem_singleton.1 hb]; rintro rfl; exact hn ha⟩
  · rcases List.mem_append.1 hz with hz | hz
    · exact h.at_ z hz
    · rw [List.mem_singleton.1 hz]
      exact ⟨hid, h.no id hn, fun e => by cases e⟩
  · rw [List.map_append, List.mem_append] at h2
    exact h.no id2 (fun e => h2 (Or.inl e))
/-- What a call leaves of the document's share. -/
def DocPost (w w' : World) (q B : Nat) (v : Value) (n : Nat) (m' : Int → Qu) : Prop := ∃ v' D', DocAt w' q B v' D' ∧ DR D' m' ∧ D'.length ≤ n ∧ Fr w w' (fun k => k = q ∨ v.ownBlock = some k) ∧ ∀ g, v'.ownBlock = some g → v.ownBlock = some g ∨ w.heap.size ≤ g
theorem DocPost.same {w w' : World} {q B n : Nat} {v : Value} {D : List S72} {m : Int → Qu} (h : DocAt w q B v D) (hd : DR D m) (hn : D.length ≤ n) (hb : Below w.heap.size w w') : DocPost w w' q B v n m :=
  ⟨v, D, h.low hb, hd, hn, Fr.of_below hb _, fun _ e => Or.inl e⟩
theorem get_snoc (D : List S72) (y : S72) : (D ++ [y]).getD D.length z72 = y := by
  rw [List.getD_eq_getElem?_getD, List.getElem?_append_right (Nat.le_refl _), Nat.sub_self]
  rfl
theorem putd_calls (q B : Nat) (v : Value) (D : List S72) (m : Int → Qu) (id : Int) (t : ByteArray) (e : Bool) (w : World) (h : DocAt w q B v D) (hd : DR D m) (hB : B ≤ w.heap.size) (hl : (D.length + 1) * 32 ≤ 140737488355328) (hz : (m id).t.size + t.size ≤ 9223372036854775807) :
    Calls Try.prog 22 #[.pointer (some ⟨q, 0, none⟩), .int .i64 id, .string t, .bool e] w fun e' w' => e' = .returned (.int .i64 (putF m id t e).1) ∧ DocPost w w' q B v (D.length + 1) (putF m id t e).2 := by
  have HB := Aside0.mk (Below.refl w.heap.size w)
  have H := Aside0.mk h
  have HD := Aside0.mk hd
  have HBB := Aside0.mk hB
  have HLL := Aside0.mk hl
  have HZ := Aside0.mk hz
  obtain ⟨PF, hPF⟩ : ∃ PF, putF m id t e = PF := ⟨_, rfl⟩
  rw [hPF]
  have HPFE := Aside0.mk hPF
  clear h hd hB hl hz hPF
  by_cases h1 : id < 1
  · have d1 : decide (id < 1) = true := decide_eq_true h1
    have HPF : Aside0 (PF = (1, m)) := ⟨by rw [← HPFE.out]; unfold putF; rw [if_pos (Or.inl h1)]⟩
    clear h1
    go_enter Try.func22, Try.ntmps22
    go_wp2_with fail
    go_ret
    exact ⟨by rw [HPF.out]; rfl, by rw [HPF.out]; exact DocPost.same H.out HD.out (Nat.le_succ _) HB.out⟩
  · have d1 : decide (id < 1) = false := decide_eq_false h1
    by_cases h2 : 2147483647 < id
    · have d2 : decide (2147483647 < id) = true := decide_eq_true h2
      have HPF : Aside0 (PF = (1, m)) := ⟨by rw [← HPFE.out]; unfold putF; rw [if_pos (Or.inr h2)]⟩
      clear h1 h2
      go_enter Try.func22, Try.ntmps22
      go_wp2_with fail
      go_ret
      exact ⟨by rw [HPF.out]; rfl, by rw [HPF.out]; exact DocPost.same H.out HD.out (Nat.le_succ _) HB.out⟩
    · have d2 : decide (2147483647 < id) = false := decide_eq_false h2
      have HID : Aside0 (In31 id) := ⟨by omega, by omega⟩
      clear h1 h2
      go_enter Try.func22, Try.ntmps22
      go_upto_region 4 with (go_at_call 31; refine (at_calls q B v D id _ H.out).mono ?_; rintro e w1 ⟨⟨r, rfl, hp⟩, rfl⟩; have HP := Aside0.mk hp; clear hp)
      clear d1 d2
      rcases HP.out with ⟨rfl, hn⟩ | ⟨i, rfl, hi, he⟩
      · have HNM := Aside0.mk hn
        have z0 := blk_cell H.out.blk 0
        have HB0 : Aside0 (Below B w w) := ⟨(Below.refl _ _).mono HBB.out⟩
        clear hn HP
        go_upto_region 6 with (first
          | ((with_reducible refine gate_builtin (b := .append) (xs := #[.tmp 25, .tmp 28]) rfl ?_); at_builtin; refine Kd.R_append k72 (w0 := w) B rfl (.tmp 25) (.tmp 28) 61 72 _ 32 rfl Try.underlying61 info72 rfl (Nat.succ_pos 3) (Nat.succ_pos 31) v D ⟨id, ByteArray.empty, false, false⟩ [.int .i64 id, .string ByteArray.empty, .bool false, .bool false] (fun _ => True) (fun _ => False) rfl rfl (k72_mkM _ _ _ (⟨id, ByteArray.empty, false, false⟩ : S72)) (fun _ h => h.elim) (fun _ _ => trivial) H.out.row HB0.out HBB.out HLL.out ?_; intro v1 w9 ho hb hg hat; obtain ⟨L, hL⟩ : ∃ L, D ++ [(⟨id, ByteArray.empty, false, false⟩ : S72)] = L := ⟨_, rfl⟩; rw [hL] at ho; obtain ⟨g, c, rfl, _, _, _⟩ := Kd.R_form ho (by rw [← hL]; simp); have HG1 := Aside0.mk hat; have X9 := Aside0.mk (blk_grown H.out.blk hg H.out.ne); have R9 := Aside0.mk ho; have G9 := Aside0.mk hg; have y0 := blk_cell X9.out 0; have y1 := blk_frozen X9.out 0; clear ho hb hg hat))
        generalize hWn : World.setCell _ _ _ = Wn
        have hbq : Wn.heap[q]? = some (.cells #[.slice (some ⟨g, 0, none⟩) L.length c] 63 (0, 0)) := by rw [← hWn]; exact blk_put X9.out 0 _ rfl
        have hrw : Kd.R k72 72 Wn B (fun _ => True) (.slice (some ⟨g, 0, none⟩) L.length c) L := by
          rw [← hWn]
          exact Kd.R_mono (Kd.R_step (Kd.R_tight rfl R9.out) (fun k hk _ => Below.heap_setCell _ _ _ _ (fun e => Kd.R_ne R9.out X9.out (by decide) (by rw [← hk]; exact congrArg some e.symm)))) (fun _ _ => trivial)
        obtain ⟨i, hi⟩ : ∃ i, D.length = i := ⟨_, rfl⟩
        have HLL2 : Aside0 (L.length = i + 1) := ⟨by rw [← hL, ← hi, List.length_append]; rfl⟩
        have HFR : Aside0 (Fr w Wn (fun k => k = q ∨ v.ownBlock = some k)) := ⟨(Fr.of_grown G9.out (fun k e => Or.inr e)).then_ (by rw [← hWn]; exact fr_set w9 _ _) (fun k e => Or.inl (Or.inl e))⟩
        have HOW : Aside0 (∀ k, (Value.slice (some ⟨g, 0, none⟩) L.length c).ownBlock = some k → v.ownBlock = some k ∨ w.heap.size ≤ k) := ⟨fun k hk => by
          rcases HG1.out with h | ⟨b, h, hb⟩
          · exact Or.inl (by rw [← h]; exact hk)
          · exact Or.inr (by rw [h] at hk; injection hk with hk; omega)⟩
        have HA : Aside0 (DocAt Wn q B (.slice (some ⟨g, 0, none⟩) L.length c) L) := ⟨⟨hbq, hrw⟩⟩
        have HI : Aside0 (i < L.length) := ⟨by have := HLL2.out; omega⟩
        have HE : Aside0 ((L.getD i z72).f0 = id) := ⟨by rw [← hL, ← hi, get_snoc]⟩
        have HR : Aside0 (DR L m) := ⟨by rw [← hL]; exact HD.out.snoc HNM.out HID.out⟩
        have HLN : Aside0 (L.length ≤ D.length + 1) := ⟨by rw [hi]; have := HLL2.out; omega⟩
        have hw1 : wrap64 ((L.length : Int) - 1) = (i : Int) := by have := HLL2.out; have := HLL.out; unfold wrap64; omega
        clear hbq hrw hWn X9 R9 G9 HG1 y0 y1 z0 HB0
        have z0 := blk_cell HA.out.blk 0
        go_upto_region 7 with fail
        rw [hw1]
        clear z0 hw1 hL hi
        obtain ⟨x, hx⟩ : ∃ x, L.getD i z72 = x := ⟨_, rfl⟩
        have hp := HR.out.pos HI.out HE.out
        rw [hx] at hp
        have HP := Aside0.mk hp
        have HXE := Aside0.mk hx
        have HX0 : Aside0 (x.f0 = id) := ⟨by rw [← hx]; exact HE.out⟩
        obtain ⟨z1, z2, z3, z4⟩ := doc_elem HA.out HI.out hx
        have z0 := blk_cell HA.out.blk 0
        have q0 : (0 : Int) ≤ (i : Int) := by omega
        have q1 : (i : Int) < (L.length : Int) := by have := HI.out; omega
        clear hp hx
        obtain ⟨y2, hy2⟩ : ∃ y, x.f2 = y := ⟨_, rfl⟩
        have HY2 := Aside0.mk hy2
        rw [hy2] at z2
        clear hy2
        cases y2
        · have HPF : Aside0 (PF = (0, updM m id ⟨(m id).t ++ t, e, e⟩)) := ⟨by rw [← HPFE.out]; exact put_open _ _ HID.out (by rw [HP.out.2.1]; exact HY2.out)⟩
          have hs2 : (x.f1.size : Int) + (t.size : Int) ≤ 9223372036854775807 := by have := HZ.out; rw [HP.out.2.1] at this; show ((x.f1.size : Nat) : Int) + _ ≤ _; have h2 : x.f1.size + t.size ≤ 9223372036854775807 := this; omega
          have hs3 : ¬ 9223372036854775807 < x.f1.size + t.size := by omega
          go_upto_region 9 with fail
          refine start_ (n := 18) (S := fun w' => w'.cell? ⟨q, 0, none⟩ = some (.slice (some ⟨g, 0, none⟩) L.length c) ∧ w'.cell? ⟨g, i * 4 + 1, none⟩ = some (.string x.f1) ∧ w'.frozen? ⟨g, i * 4 + 1, none⟩ = false) (ds := [17]) #[false, false, false, false, false, false, false, false, false, false, false, false, false, false, false, false, false, false] (by kernel_rfl) rfl rfl ⟨z0, z1, z4 1⟩ (fun hHeld => ?_)
          refine pure_ (i := 0) (N := some 46) (v := ?_) (a' := ?_) #[true, false, false, false, false, false, false, false, false, false, false, false, false, false, false, false, false, false] rfl rfl (by kernel_rfl) (fun _ _ _ h => h) (Or.inl ⟨by rfl, ?_⟩) ?_ ?_
          rotate_left
          · intro w'
            go_simp
            with_reducible rfl
          rotate_left
          · simp only [Act.put, List.setIfInBounds_toArray, List.set_cons_zero, List.set_cons_succ, i64_w, i32_w]
            rfl
          refine pure_ (i := 1) (N := some 47) (v := ?_) (a' := ?_) #[true, true, false, false, false, false, false, false, false, false, false, false, false, false, false, false, false, false] rfl rfl (by kernel_rfl) (fun _ _ _ h => h) (Or.inl ⟨by rfl, ?_⟩) ?_ ?_
          rotate_left
          · intro w'
            go_simp
            with_reducible rfl
          rotate_left
          · simp only [Act.put, List.setIfInBounds_toArray, List.set_cons_zero, List.set_cons_succ, i64_w, i32_w]
            rfl
          refine pure_ (i := 2) (N := some 48) (v := ?_) (a' := ?_) #[true, true, true, false, false, false, false, false, false, false, false, false, false, false, false, false, false, false] rfl rfl (by kernel_rfl) (fun _ _ _ h => h) (Or.inl ⟨by rfl, ?_⟩) ?_ ?_
          rotate_left
          · intro w'
            go_simp
            with_reducible rfl
          rotate_left
          · simp only [Act.put, List.setIfInBounds_toArray, List.set_cons_zero, List.set_cons_succ, i64_w, i32_w]
            rfl
          refine pure_ (i := 4) (N := some 50) (v := ?_) (a' := ?_) #[true, true, true, false, true, false, false, false, false, false, false, false, false, false, false, false, false, false] rfl rfl (by kernel_rfl) (fun _ _ _ h => h) (Or.inl ⟨by rfl, ?_⟩) ?_ ?_
          rotate_left
          · intro w'
            go_simp
            with_reducible rfl
          rotate_left
          · simp only [Act.put, List.setIfInBounds_toArray, List.set_cons_zero, List.set_cons_succ, i64_w, i32_w]
            rfl
          refine pure_ (i := 5) (N := some 51) (v := ?_) (a' := ?_) #[true, true, true, false, true, true, false, false, false, false, false, false, false, false, false, false, false, false] rfl rfl (by kernel_rfl) (fun _ _ _ h => h) (Or.inl ⟨by rfl, ?_⟩) ?_ ?_
          rotate_left
          · intro w'
            go_simp
            with_reducible rfl
          rotate_left
          · simp only [Act.put, List.setIfInBounds_toArray, List.set_cons_zero, List.set_cons_succ, i64_w, i32_w]
            rfl
          refine pure_ (i := 6) (N := some 52) (v := ?_) (a' := ?_) #[true, true, true, false, true, true, true, false, false, false, false, false, false, false, false, false, false, false] rfl rfl (by kernel_rfl) (fun _ _ _ h => h) (Or.inl ⟨by rfl, ?_⟩) ?_ ?_
          rotate_left
          · intro w'
            go_simp
            with_reducible rfl
          rotate_left
          · simp only [Act.put, List.setIfInBounds_toArray, List.set_cons_zero, List.set_cons_succ, i64_w, i32_w]
            rfl
          refine pure_ (i := 7) (N := some 53) (v := ?_) (a' := ?_) #[true, true, true, false, true, true, true, true, false, false, false, false, false, false, false, false, false, false] rfl rfl (by kernel_rfl) (fun _ _ _ h => h) (Or.inl ⟨by rfl, ?_⟩) ?_ ?_
          rotate_left
          · intro w'
            go_simp
            with_reducible rfl
          rotate_left
          · simp only [Act.put, List.setIfInBounds_toArray, List.set_cons_zero, List.set_cons_succ, i64_w, i32_w]
            rfl
          refine pure_ (i := 9) (N := some 55) (v := ?_) (a' := ?_) #[true, true, true, false, true, true, true, true, false, true, false, false, false, false, false, false, false, false] rfl rfl (by kernel_rfl) (fun _ _ _ h => h) (Or.inl ⟨by rfl, ?_⟩) ?_ ?_
          rotate_left
          · intro w'
            go_simp
            with_reducible rfl
          rotate_left
          · simp only [Act.put, List.setIfInBounds_toArray, List.set_cons_zero, List.set_cons_succ, i64_w, i32_w]
            rfl
          refine pure_ (i := 13) (N := some 59) (v := ?_) (a' := ?_) #[true, true, true, false, true, true, true, true, false, true, false, false, false, true, false, false, false, false] rfl rfl (by kernel_rfl) (fun _ _ _ h => h) (Or.inl ⟨by rfl, ?_⟩) ?_ ?_
          rotate_left
          · intro w'
            go_simp
            with_reducible rfl
          rotate_left
          · simp only [Act.put, List.setIfInBounds_toArray, List.set_cons_zero, List.set_cons_succ, i64_w, i32_w]
            rfl
          refine take_ (i := 3) (N := some 49) (v := ?_) (a' := ?_) #[true, true, true, true, true, true, true, true, false, true, false, false, false, true, false, false, false, false] rfl rfl (by kernel_rfl) (fun _ _ _ h => h) (Or.inl ⟨by rfl, ?_⟩) hHeld ?_ ?_
          rotate_left
          · rintro w' ⟨s0, s1, s2⟩
            go_simp
            with_reducible rfl
          rotate_left
          · simp only [Act.put, List.setIfInBounds_toArray, List.set_cons_zero, List.set_cons_succ, i64_w, i32_w]
            rfl
          refine take_ (i := 8) (N := some 54) (v := ?_) (a' := ?_) #[true, true, true, true, true, true, true, true, true, true, false, false, false, true, false, false, false, false] rfl rfl (by kernel_rfl) (fun _ _ _ h => h) (Or.inl ⟨by rfl, ?_⟩) hHeld ?_ ?_
          rotate_left
          · rintro w' ⟨s0, s1, s2⟩
            go_simp
            with_reducible rfl
          rotate_left
          · simp only [Act.put, List.setIfInBounds_toArray, List.set_cons_zero, List.set_cons_succ, i64_w, i32_w]
            rfl
          refine pure_ (i := 10) (N := some 56) (v := ?_) (a' := ?_) #[true, true, true, true, true, true, true, true, true, true, true, false, false, true, false, false, false, false] rfl rfl (by kernel_rfl) (fun _ _ _ h => h) (Or.inl ⟨by rfl, ?_⟩) ?_ ?_
          rotate_left
          · intro w'
            go_simp
            with_reducible rfl
          rotate_left
          · simp only [Act.put, List.setIfInBounds_toArray, List.set_cons_zero, List.set_cons_succ, i64_w, i32_w]
            rfl
          refine pure_ (i := 11) (N := some 57) (v := ?_) (a' := ?_) #[true, true, true, true, true, true, true, true, true, true, true, true, false, true, false, false, false, false] rfl rfl (by kernel_rfl) (fun _ _ _ h => h) (Or.inl ⟨by rfl, ?_⟩) ?_ ?_
          rotate_left
          · intro w'
            go_simp
            with_reducible rfl
          rotate_left
          · simp only [Act.put, List.setIfInBounds_toArray, List.set_cons_zero, List.set_cons_succ, i64_w, i32_w]
            rfl
          refine take_ (i := 12) (N := some 58) (v := ?_) (a' := ?_) #[true, true, true, true, true, true, true, true, true, true, true, true, true, true, false, false, false, false] rfl rfl (by kernel_rfl) (fun _ _ _ h => h) (Or.inl ⟨by rfl, ?_⟩) hHeld ?_ ?_
          rotate_left
          · rintro w' ⟨s0, s1, s2⟩
            go_simp
            with_reducible rfl
          rotate_left
          · simp only [Act.put, List.setIfInBounds_toArray, List.set_cons_zero, List.set_cons_succ, i64_w, i32_w]
            rfl
          refine pure_ (i := 14) (N := some 60) (v := ?_) (a' := ?_) #[true, true, true, true, true, true, true, true, true, true, true, true, true, true, true, false, false, false] rfl rfl (by kernel_rfl) (fun _ _ _ h => h) (Or.inl ⟨by rfl, ?_⟩) ?_ ?_
          rotate_left
          · intro w'
            go_simp
            with_reducible rfl
          rotate_left
          · simp only [Act.put, List.setIfInBounds_toArray, List.set_cons_zero, List.set_cons_succ, i64_w, i32_w]
            rfl
          refine pure_ (i := 15) (N := some 61) (v := ?_) (a' := ?_) #[true, true, true, true, true, true, true, true, true, true, true, true, true, true, true, true, false, false] rfl rfl (by kernel_rfl) (fun _ _ _ h => h) (Or.inl ⟨by rfl, ?_⟩) ?_ ?_
          rotate_left
          · intro w'
            go_simp
            with_reducible rfl
          rotate_left
          · simp only [Act.put, List.setIfInBounds_toArray, List.set_cons_zero, List.set_cons_succ, i64_w, i32_w]
            rfl
          refine pure_ (i := 16) (N := some 62) (v := ?_) (a' := ?_) #[true, true, true, true, true, true, true, true, true, true, true, true, true, true, true, true, true, false] rfl rfl (by kernel_rfl) (fun _ _ _ h => h) (Or.inl ⟨by rfl, ?_⟩) ?_ ?_
          rotate_left
          · intro w'
            go_simp
            with_reducible rfl
          rotate_left
          · simp only [Act.put, List.setIfInBounds_toArray, List.set_cons_zero, List.set_cons_succ, i64_w, i32_w]
            rfl
          refine last_ (i := 17) (N := none) #[true, true, true, true, true, true, true, true, true, true, true, true, true, true, true, true, true, true] rfl rfl (by kernel_rfl) (by decide) (fun K hK => ?_)
          refine skip_ (w1 := ?_) (by rfl) rfl ?_ ?_
          rotate_left
          · go_simp
            rfl
          refine hK.out _ _ ?_
          clear hK K
          refine done_ (by kernel_rfl) ?_
          generalize hWn : World.setCell _ _ _ = Wn
          obtain ⟨a1, a2⟩ := doc_set (j := 1) (y := ⟨x.f0, x.f1 ++ t, x.f2, x.f3⟩) HA.out HI.out HXE.out (by omega) rfl hWn
          have A1 := Aside0.mk a1
          have F1 := Aside0.mk a2
          clear a1 a2 hWn z0 z1 z2 z3 z4 hs2 hs3
          have HL1 : Aside0 ((L.set i ⟨x.f0, x.f1 ++ t, x.f2, x.f3⟩).getD i z72 = ⟨x.f0, x.f1 ++ t, x.f2, x.f3⟩) := ⟨by rw [List.getD_eq_getElem?_getD, List.getElem?_set_self HI.out]; rfl⟩
          obtain ⟨z1, z2, z3, z4⟩ := doc_elem A1.out HI.out HL1.out
          have z0 := blk_cell A1.out.blk 0
          have z5 := z4 2
          clear z1 z3 z4
          go_upto_region 11 with fail
          generalize hWm : World.setCell _ _ _ = Wm
          obtain ⟨a1, a2⟩ := doc_set (j := 2) (y := ⟨x.f0, x.f1 ++ t, e, x.f3⟩) A1.out HI.out HL1.out (by omega) rfl hWm
          have A2 := Aside0.mk a1
          have F2 := Aside0.mk ((F1.out.then_ a2 (fun k hk => Or.inl hk)).low (below_drew (Below.refl _ _)))
          clear a1 a2 hWm z0 z2 z5
          go_wp2_with fail
          go_ret
          have h3 : x.f3 = false := by
            cases h : x.f3
            · rfl
            · have := (HP.out.2.2 h).1; rw [HY2.out] at this; cases this
          have hd := HR.out.set HI.out HE.out ⟨x.f0, x.f1 ++ t, e, x.f3⟩ HX0.out (fun h => by rw [h3] at h; cases h)
          rw [h3] at hd
          refine ⟨by rw [HPF.out]; rfl, _, _, A2.out.low (below_drew (Below.refl _ _)), ?_, ?_, HFR.out.then_ F2.out ?_, HOW.out⟩
          · rw [List.set_set, HPF.out, h3, HP.out.2.1]
            cases e <;> exact hd
          · rw [List.length_set, List.length_set]; exact HLN.out
          · intro k hk
            subst hk
            rcases HOW.out k rfl with h | h
            · exact Or.inl (Or.inr h)
            · exact Or.inr h
        · have HPF : Aside0 (PF = (8, m)) := ⟨by rw [← HPFE.out]; exact put_over _ _ HID.out (by rw [HP.out.2.1]; exact HY2.out)⟩
          go_wp2_with fail
          go_ret
          exact ⟨by rw [HPF.out]; rfl, _, _, HA.out, by rw [HPF.out]; exact HR.out, HLN.out, HFR.out, HOW.out⟩
      · obtain ⟨L, hL⟩ : ∃ L, D = L := ⟨_, rfl⟩
        have d3 : decide ((i : Int) < 0) = false := decide_eq_false (by omega)
        have HI : Aside0 (i < L.length) := ⟨by rw [← hL]; exact hi⟩
        have HE : Aside0 ((L.getD i z72).f0 = id) := ⟨by rw [← hL]; exact he⟩
        have HR : Aside0 (DR L m) := ⟨by rw [← hL]; exact HD.out⟩
        have HLN : Aside0 (L.length ≤ D.length + 1) := ⟨by rw [hL]; omega⟩
        obtain ⟨g, c, rfl, _, _, _⟩ := Kd.R_form H.out.row (by omega)
        have HFR : Aside0 (Fr w w (fun k => k = q ∨ (Value.slice (some ⟨g, 0, none⟩) D.length c).ownBlock = some k)) := ⟨Fr.refl _ _⟩
        have HOW : Aside0 (∀ k, (Value.slice (some ⟨g, 0, none⟩) L.length c).ownBlock = some k → (Value.slice (some ⟨g, 0, none⟩) D.length c).ownBlock = some k ∨ w.heap.size ≤ k) := ⟨fun k hk => Or.inl (by rw [hL]; exact hk)⟩
        have HA : Aside0 (DocAt w q B (.slice (some ⟨g, 0, none⟩) L.length c) L) := ⟨by rw [← hL]; exact H.out⟩
        obtain ⟨N, hN⟩ : ∃ N, D.length = N := ⟨_, rfl⟩
        clear hi he HP hL
        obtain ⟨x, hx⟩ : ∃ x, L.getD i z72 = x := ⟨_, rfl⟩
        have hp := HR.out.pos HI.out HE.out
        rw [hx] at hp
        have HP := Aside0.mk hp
        have HXE := Aside0.mk hx
        have HX0 : Aside0 (x.f0 = id) := ⟨by rw [← hx]; exact HE.out⟩
        obtain ⟨z1, z2, z3, z4⟩ := doc_elem HA.out HI.out hx
        have z0 := blk_cell HA.out.blk 0
        have q0 : (0 : Int) ≤ (i : Int) := by omega
        have q1 : (i : Int) < (L.length : Int) := by have := HI.out; omega
        clear hp hx
        obtain ⟨y2, hy2⟩ : ∃ y, x.f2 = y := ⟨_, rfl⟩
        have HY2 := Aside0.mk hy2
        rw [hy2] at z2
        clear hy2
        cases y2
        · have HPF : Aside0 (PF = (0, updM m id ⟨(m id).t ++ t, e, e⟩)) := ⟨by rw [← HPFE.out]; exact put_open _ _ HID.out (by rw [HP.out.2.1]; exact HY2.out)⟩
          have hs2 : (x.f1.size : Int) + (t.size : Int) ≤ 9223372036854775807 := by have := HZ.out; rw [HP.out.2.1] at this; show ((x.f1.size : Nat) : Int) + _ ≤ _; have h2 : x.f1.size + t.size ≤ 9223372036854775807 := this; omega
          have hs3 : ¬ 9223372036854775807 < x.f1.size + t.size := by omega
          go_upto_region 9 with fail
          refine start_ (n := 18) (S := fun w' => w'.cell? ⟨q, 0, none⟩ = some (.slice (some ⟨g, 0, none⟩) L.length c) ∧ w'.cell? ⟨g, i * 4 + 1, none⟩ = some (.string x.f1) ∧ w'.frozen? ⟨g, i * 4 + 1, none⟩ = false) (ds := [17]) #[false, false, false, false, false, false, false, false, false, false, false, false, false, false, false, false, false, false] (by kernel_rfl) rfl rfl ⟨z0, z1, z4 1⟩ (fun hHeld => ?_)
          refine pure_ (i := 0) (N := some 46) (v := ?_) (a' := ?_) #[true, false, false, false, false, false, false, false, false, false, false, false, false, false, false, false, false, false] rfl rfl (by kernel_rfl) (fun _ _ _ h => h) (Or.inl ⟨by rfl, ?_⟩) ?_ ?_
          rotate_left
          · intro w'
            go_simp
            with_reducible rfl
          rotate_left
          · simp only [Act.put, List.setIfInBounds_toArray, List.set_cons_zero, List.set_cons_succ, i64_w, i32_w]
            rfl
          refine pure_ (i := 1) (N := some 47) (v := ?_) (a' := ?_) #[true, true, false, false, false, false, false, false, false, false, false, false, false, false, false, false, false, false] rfl rfl (by kernel_rfl) (fun _ _ _ h => h) (Or.inl ⟨by rfl, ?_⟩) ?_ ?_
          rotate_left
          · intro w'
            go_simp
            with_reducible rfl
          rotate_left
          · simp only [Act.put, List.setIfInBounds_toArray, List.set_cons_zero, List.set_cons_succ, i64_w, i32_w]
            rfl
          refine pure_ (i := 2) (N := some 48) (v := ?_) (a' := ?_) #[true, true, true, false, false, false, false, false, false, false, false, false, false, false, false, false, false, false] rfl rfl (by kernel_rfl) (fun _ _ _ h => h) (Or.inl ⟨by rfl, ?_⟩) ?_ ?_
          rotate_left
          · intro w'
            go_simp
            with_reducible rfl
          rotate_left
          · simp only [Act.put, List.setIfInBounds_toArray, List.set_cons_zero, List.set_cons_succ, i64_w, i32_w]
            rfl
          refine pure_ (i := 4) (N := some 50) (v := ?_) (a' := ?_) #[true, true, true, false, true, false, false, false, false, false, false, false, false, false, false, false, false, false] rfl rfl (by kernel_rfl) (fun _ _ _ h => h) (Or.inl ⟨by rfl, ?_⟩) ?_ ?_
          rotate_left
          · intro w'
            go_simp
            with_reducible rfl
          rotate_left
          · simp only [Act.put, List.setIfInBounds_toArray, List.set_cons_zero, List.set_cons_succ, i64_w, i32_w]
            rfl
          refine pure_ (i := 5) (N := some 51) (v := ?_) (a' := ?_) #[true, true, true, false, true, true, false, false, false, false, false, false, false, false, false, false, false, false] rfl rfl (by kernel_rfl) (fun _ _ _ h => h) (Or.inl ⟨by rfl, ?_⟩) ?_ ?_
          rotate_left
          · intro w'
            go_simp
            with_reducible rfl
          rotate_left
          · simp only [Act.put, List.setIfInBounds_toArray, List.set_cons_zero, List.set_cons_succ, i64_w, i32_w]
            rfl
          refine pure_ (i := 6) (N := some 52) (v := ?_) (a' := ?_) #[true, true, true, false, true, true, true, false, false, false, false, false, false, false, false, false, false, false] rfl rfl (by kernel_rfl) (fun _ _ _ h => h) (Or.inl ⟨by rfl, ?_⟩) ?_ ?_
          rotate_left
          · intro w'
            go_simp
            with_reducible rfl
          rotate_left
          · simp only [Act.put, List.setIfInBounds_toArray, List.set_cons_zero, List.set_cons_succ, i64_w, i32_w]
            rfl
          refine pure_ (i := 7) (N := some 53) (v := ?_) (a' := ?_) #[true, true, true, false, true, true, true, true, false, false, false, false, false, false, false, false, false, false] rfl rfl (by kernel_rfl) (fun _ _ _ h => h) (Or.inl ⟨by rfl, ?_⟩) ?_ ?_
          rotate_left
          · intro w'
            go_simp
            with_reducible rfl
          rotate_left
          · simp only [Act.put, List.setIfInBounds_toArray, List.set_cons_zero, List.set_cons_succ, i64_w, i32_w]
            rfl
          refine pure_ (i := 9) (N := some 55) (v := ?_) (a' := ?_) #[true, true, true, false, true, true, true, true, false, true, false, false, false, false, false, false, false, false] rfl rfl (by kernel_rfl) (fun _ _ _ h => h) (Or.inl ⟨by rfl, ?_⟩) ?_ ?_
          rotate_left
          · intro w'
            go_simp
            with_reducible rfl
          rotate_left
          · simp only [Act.put, List.setIfInBounds_toArray, List.set_cons_zero, List.set_cons_succ, i64_w, i32_w]
            rfl
          refine pure_ (i := 13) (N := some 59) (v := ?_) (a' := ?_) #[true, true, true, false, true, true, true, true, false, true, false, false, false, true, false, false, false, false] rfl rfl (by kernel_rfl) (fun _ _ _ h => h) (Or.inl ⟨by rfl, ?_⟩) ?_ ?_
          rotate_left
          · intro w'
            go_simp
            with_reducible rfl
          rotate_left
          · simp only [Act.put, List.setIfInBounds_toArray, List.set_cons_zero, List.set_cons_succ, i64_w, i32_w]
            rfl
          refine take_ (i := 3) (N := some 49) (v := ?_) (a' := ?_) #[true, true, true, true, true, true, true, true, false, true, false, false, false, true, false, false, false, false] rfl rfl (by kernel_rfl) (fun _ _ _ h => h) (Or.inl ⟨by rfl, ?_⟩) hHeld ?_ ?_
          rotate_left
          · rintro w' ⟨s0, s1, s2⟩
            go_simp
            with_reducible rfl
          rotate_left
          · simp only [Act.put, List.setIfInBounds_toArray, List.set_cons_zero, List.set_cons_succ, i64_w, i32_w]
            rfl
          refine take_ (i := 8) (N := some 54) (v := ?_) (a' := ?_) #[true, true, true, true, true, true, true, true, true, true, false, false, false, true, false, false, false, false] rfl rfl (by kernel_rfl) (fun _ _ _ h => h) (Or.inl ⟨by rfl, ?_⟩) hHeld ?_ ?_
          rotate_left
          · rintro w' ⟨s0, s1, s2⟩
            go_simp
            with_reducible rfl
          rotate_left
          · simp only [Act.put, List.setIfInBounds_toArray, List.set_cons_zero, List.set_cons_succ, i64_w, i32_w]
            rfl
          refine pure_ (i := 10) (N := some 56) (v := ?_) (a' := ?_) #[true, true, true, true, true, true, true, true, true, true, true, false, false, true, false, false, false, false] rfl rfl (by kernel_rfl) (fun _ _ _ h => h) (Or.inl ⟨by rfl, ?_⟩) ?_ ?_
          rotate_left
          · intro w'
            go_simp
            with_reducible rfl
          rotate_left
          · simp only [Act.put, List.setIfInBounds_toArray, List.set_cons_zero, List.set_cons_succ, i64_w, i32_w]
            rfl
          refine pure_ (i := 11) (N := some 57) (v := ?_) (a' := ?_) #[true, true, true, true, true, true, true, true, true, true, true, true, false, true, false, false, false, false] rfl rfl (by kernel_rfl) (fun _ _ _ h => h) (Or.inl ⟨by rfl, ?_⟩) ?_ ?_
          rotate_left
          · intro w'
            go_simp
            with_reducible rfl
          rotate_left
          · simp only [Act.put, List.setIfInBounds_toArray, List.set_cons_zero, List.set_cons_succ, i64_w, i32_w]
            rfl
          refine take_ (i := 12) (N := some 58) (v := ?_) (a' := ?_) #[true, true, true, true, true, true, true, true, true, true, true, true, true, true, false, false, false, false] rfl rfl (by kernel_rfl) (fun _ _ _ h => h) (Or.inl ⟨by rfl, ?_⟩) hHeld ?_ ?_
          rotate_left
          · rintro w' ⟨s0, s1, s2⟩
            go_simp
            with_reducible rfl
          rotate_left
          · simp only [Act.put, List.setIfInBounds_toArray, List.set_cons_zero, List.set_cons_succ, i64_w, i32_w]
            rfl
          refine pure_ (i := 14) (N := some 60) (v := ?_) (a' := ?_) #[true, true, true, true, true, true, true, true, true, true, true, true, true, true, true, false, false, false] rfl rfl (by kernel_rfl) (fun _ _ _ h => h) (Or.inl ⟨by rfl, ?_⟩) ?_ ?_
          rotate_left
          · intro w'
            go_simp
            with_reducible rfl
          rotate_left
          · simp only [Act.put, List.setIfInBounds_toArray, List.set_cons_zero, List.set_cons_succ, i64_w, i32_w]
            rfl
          refine pure_ (i := 15) (N := some 61) (v := ?_) (a' := ?_) #[true, true, true, true, true, true, true, true, true, true, true, true, true, true, true, true, false, false] rfl rfl (by kernel_rfl) (fun _ _ _ h => h) (Or.inl ⟨by rfl, ?_⟩) ?_ ?_
          rotate_left
          · intro w'
            go_simp
            with_reducible rfl
          rotate_left
          · simp only [Act.put, List.setIfInBounds_toArray, List.set_cons_zero, List.set_cons_succ, i64_w, i32_w]
            rfl
          refine pure_ (i := 16) (N := some 62) (v := ?_) (a' := ?_) #[true, true, true, true, true, true, true, true, true, true, true, true, true, true, true, true, true, false] rfl rfl (by kernel_rfl) (fun _ _ _ h => h) (Or.inl ⟨by rfl, ?_⟩) ?_ ?_
          rotate_left
          · intro w'
            go_simp
            with_reducible rfl
          rotate_left
          · simp only [Act.put, List.setIfInBounds_toArray, List.set_cons_zero, List.set_cons_succ, i64_w, i32_w]
            rfl
          refine last_ (i := 17) (N := none) #[true, true, true, true, true, true, true, true, true, true, true, true, true, true, true, true, true, true] rfl rfl (by kernel_rfl) (by decide) (fun K hK => ?_)
          refine skip_ (w1 := ?_) (by rfl) rfl ?_ ?_
          rotate_left
          · go_simp
            rfl
          refine hK.out _ _ ?_
          clear hK K
          refine done_ (by kernel_rfl) ?_
          generalize hWn : World.setCell _ _ _ = Wn
          obtain ⟨a1, a2⟩ := doc_set (j := 1) (y := ⟨x.f0, x.f1 ++ t, x.f2, x.f3⟩) HA.out HI.out HXE.out (by omega) rfl hWn
          have A1 := Aside0.mk a1
          have F1 := Aside0.mk a2
          clear a1 a2 hWn z0 z1 z2 z3 z4 hs2 hs3
          have HL1 : Aside0 ((L.set i ⟨x.f0, x.f1 ++ t, x.f2, x.f3⟩).getD i z72 = ⟨x.f0, x.f1 ++ t, x.f2, x.f3⟩) := ⟨by rw [List.getD_eq_getElem?_getD, List.getElem?_set_self HI.out]; rfl⟩
          obtain ⟨z1, z2, z3, z4⟩ := doc_elem A1.out HI.out HL1.out
          have z0 := blk_cell A1.out.blk 0
          have z5 := z4 2
          clear z1 z3 z4
          go_upto_region 11 with fail
          generalize hWm : World.setCell _ _ _ = Wm
          obtain ⟨a1, a2⟩ := doc_set (j := 2) (y := ⟨x.f0, x.f1 ++ t, e, x.f3⟩) A1.out HI.out HL1.out (by omega) rfl hWm
          have A2 := Aside0.mk a1
          have F2 := Aside0.mk ((F1.out.then_ a2 (fun k hk => Or.inl hk)).low (below_drew (Below.refl _ _)))
          clear a1 a2 hWm z0 z2 z5
          go_wp2_with fail
          go_ret
          have h3 : x.f3 = false := by
            cases h : x.f3
            · rfl
            · have := (HP.out.2.2 h).1; rw [HY2.out] at this; cases this
          have hd := HR.out.set HI.out HE.out ⟨x.f0, x.f1 ++ t, e, x.f3⟩ HX0.out (fun h => by rw [h3] at h; cases h)
          rw [h3] at hd
          refine ⟨by rw [HPF.out]; rfl, _, _, A2.out.low (below_drew (Below.refl _ _)), ?_, ?_, HFR.out.then_ F2.out ?_, HOW.out⟩
          · rw [List.set_set, HPF.out, h3, HP.out.2.1]
            cases e <;> exact hd
          · rw [List.length_set, List.length_set]; exact HLN.out
          · intro k hk
            subst hk
            rcases HOW.out k rfl with h | h
            · exact Or.inl (Or.inr h)
            · exact Or.inr h
        · have HPF : Aside0 (PF = (8, m)) := ⟨by rw [← HPFE.out]; exact put_over _ _ HID.out (by rw [HP.out.2.1]; exact HY2.out)⟩
          go_wp2_with fail
          go_ret
          exact ⟨by rw [HPF.out]; rfl, _, _, HA.out, by rw [HPF.out]; exact HR.out, HLN.out, HFR.out, HOW.out⟩
end Go.Proofs.Ytedkjbdkokdgdaa.Sh
