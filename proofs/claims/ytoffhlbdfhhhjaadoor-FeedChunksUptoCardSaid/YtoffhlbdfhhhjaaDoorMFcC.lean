/- What is told compared: sameTold. The lists fit in memory. -/
import Derived.Test.YtoffhlbdfhhhjaaDoorMFcB
import Derived.Test.YtoffhlbdfhhhjaaDoorMFdV
import Derived.Test.YtoffhlbdfhhhjaaDoorMFrK
namespace Go.Proofs.YtoffhlbdfhhhjaaDoor.Fr
open Go Go.RowKit Go.Proofs.YtoffhlbdfhhhjaaDoorW.PrintWords Go.Proofs.YtoffhlbdfhhhjaaDoorW.PrintLast Go.Proofs.YtoffhlbdfhhhjaaDoorW.PrintMore Go.Proofs.YtoffhlbdfhhhjaaDoor.QL
set_option linter.unusedSimpArgs false
set_option linter.unusedVariables false
set_option maxHeartbeats 4000000
set_option maxRecDepth 100000
theorem td_add (a : Addr) (m n : Nat) : (a.add m).add n = a.add (m + n) := by
  unfold Addr.add
  by_cases hm : m = 0
  · subst hm; simp
  · by_cases hn : n = 0
    · subst hn; simp
    · simp [hm, hn, Nat.add_assoc]
theorem run_loadVar_listC {P : Program} (w : World) (ad : Addr) (ty : TypeId) (cs : Array Value) (d : TypeDesc) (hg : ∀ j u, cs.toList[j]? = some u → w.cell? (ad.add j) = some u)
    (hu : P.underlying ty = some d) (hd : (match d with | .struct _ | .array _ _ => true | _ => false) = true) (hi : (P.info? ty).map (·.size) = some cs.size) :
    (loadVar ty ad).run P w = .ok (.agg cs) w := by
  have hl : (loadCells ad cs.toList.length).run P w = .ok cs.toList.toArray w := run_loadCells_list (P := P) w ad cs.toList hg
  cases hq : P.info? ty with
  | none => simp [hq] at hi
  | some i =>
    have hs : i.size = cs.size := by simpa [hq] using hi
    have hagg : (isAgg ty).run P w = .ok true w := by
      unfold isAgg
      rw [Sem.run_bind, run_underlying hu w]
      cases d <;> simp_all
    simp only [Array.length_toList, Array.toArray_toList] at hl
    simp [loadVar, Sem.run_bind, hagg, sizeOf, typeInfo, hq, hs, hl]
theorem load_list_run {P : Program} {o : Oper} {ev : Operand → Value} {w : World} (ty : TypeId) (x : Operand) (ho : o.op = .load ty x)
    (ad : Addr) (hx : ev x = .pointer (some ad)) (cs : Array Value) (d : TypeDesc) (hg : ∀ j u, cs.toList[j]? = some u → w.cell? (ad.add j) = some u)
    (hu : P.underlying ty = some d) (hd : (match d with | .struct _ | .array _ _ => true | _ => false) = true) (hi : (P.info? ty).map (·.size) = some cs.size) :
    (execOp ev o).run P w = .ok (.value (.agg cs)) w := by
  unfold execOp
  simp only [ho, hx, Instr.loadAt, Instr.sureAddr, Sem.run_bind, Sem.run_pure, Result.andThen_ok, run_loadVar_listC w ad ty cs d hg hu hd hi]
/-- The j-th of what was told. -/
theorem td_get {W : World} {A : Option Addr} {n : Nat} {xs : List Td} (h : Kd.C kTd W A n xs) (j : Nat) (x : Td) (hx : xs[j]? = some x) : ∃ ad A' c', A = some ad ∧ x.fr.ps.length ≤ c' ∧ Kd.C k32 W A' x.fr.ps.length x.fr.ps ∧ ∀ i u, (x.cells A' c')[i]? = some u → W.cell? (ad.add (j * 13 + i)) = some u := by
  obtain ⟨h1, h2, h3⟩ := h
  obtain ⟨ad, e, hc⟩ := h3 (by have := (List.getElem?_eq_some_iff.1 hx).1; omega)
  obtain ⟨c, hs, hk, hcell⟩ := hc j x hx
  obtain ⟨A', c', rfl, hl, hC⟩ := kTd_open hk
  exact ⟨ad, A', c', e, hl, hC, fun i u hu => hcell i u hu⟩
theorem td_field {W : World} {ad : Addr} {m i : Nat} {u : Value} (h : W.cell? (ad.add (m + i)) = some u) (hi : i ≠ 0) : W.cell? ⟨(ad.add m).block, (ad.add m).off + i, none⟩ = some u := by
  rw [← add_field _ _ i (by omega)]
  exact h
theorem C_le {W : World} {A : Option Addr} {n : Nat} {xs : List S32} (h : Kd.C k32 W A n xs) : n ≤ 9223372036854775807 := by
  obtain ⟨_, h2, _⟩ := h
  exact h2
attribute [local go_sem high] eqA32
theorem sameTold_calls (A B : Option Addr) (c d : Nat) (L : List Td) (w : World) (hl : L.length ≤ 1048576) (h1 : Kd.C kTd w A L.length L) (h3 : Kd.C kTd w B L.length L) :
    Calls Tryd.prog 34 #[.slice A L.length c, .slice B L.length d] w fun e w' => e = .returned (.bool true) ∧ Below w.heap.size w w' := by
  have HL := Aside0.mk hl
  have H1 := Aside0.mk h1
  have H3 := Aside0.mk h3
  have HB := Aside0.mk (Below.refl w.heap.size w)
  have hnn1 : ((L.length : Int) != (L.length : Int)) = false := by simp
  have hnn2 : (L.length != L.length) = false := by simp
  clear hl h1 h3
  go_enter Tryd.func34, Tryd.ntmps34
  go_upto_if 4 with fail
  clear hnn1 hnn2
  go_loopw [5] (fun v w' => ∃ i : Nat, v = .int .i64 (i : Int) ∧ Aside0 (i ≤ L.length) ∧ Aside0 (Kd.C kTd w' A L.length L) ∧ Aside0 (Kd.C kTd w' B L.length L) ∧ Aside0 (Below w.heap.size w w')) (fun v _ => ((L.length : Int) - intOf v).toNat)
  case atStart => exact ⟨0, rfl, ⟨Nat.zero_le _⟩, H1, H3, HB⟩
  case round =>
    clear H1 H3 HB
    obtain ⟨i, rfl, HI, H1, H3, HB⟩ := hrel
    by_cases hil : i < L.length
    · have d1 : decide ((i : Int) < (L.length : Int)) = true := decide_eq_true (by omega)
      have d2 : decide (i < L.length) = true := decide_eq_true hil
      obtain ⟨m, hm⟩ : ∃ m, i + 1 = m := ⟨_, rfl⟩
      have hw1 : wrap64 ((i : Int) + 1) = (m : Int) := by have := HL.out; unfold wrap64; omega
      have HIM : Aside0 (i < L.length ∧ i + 1 = m) := ⟨hil, hm⟩
      have p0 : (0 : Int) ≤ (i : Int) := by omega
      have p1 : (i : Int) < (L.length : Int) := by omega
      obtain ⟨x, hx⟩ : ∃ x, L[i]? = some x := ⟨_, List.getElem?_eq_getElem hil⟩
      obtain ⟨ad, A6, c6, rfl, ha1, ha2, ha3⟩ := td_get H1.out i x hx
      obtain ⟨ae, A7, c7, rfl, hb1, hb2, hb3⟩ := td_get H3.out i x hx
      have CA := Aside0.mk (And.intro ha2 ha1)
      have CB := Aside0.mk (And.intro hb2 hb1)
      have XA1 := Aside0.mk (td_field (ha3 11 _ rfl) (by decide))
      have XA2 := Aside0.mk (td_field (ha3 12 _ rfl) (by decide))
      have XB1 := Aside0.mk (td_field (hb3 11 _ rfl) (by decide))
      have XB2 := Aside0.mk (td_field (hb3 12 _ rfl) (by decide))
      have XA : Aside0 (∀ k u, (x.fr.cells A6 c6).toList[k]? = some u → wr.cell? ((ad.add (i * 13)).add k) = some u) := ⟨fun k u hu => by rw [td_add]; exact ha3 k u (by
        have hk := (List.getElem?_eq_some_iff.1 hu).1
        rw [← hu]
        show ((x.fr.cells A6 c6).toList ++ [.int .i64 x.code, .int .i64 x.st])[k]? = _
        rw [List.getElem?_append_left hk])⟩
      have XB : Aside0 (∀ k u, (x.fr.cells A7 c7).toList[k]? = some u → wr.cell? ((ae.add (i * 13)).add k) = some u) := ⟨fun k u hu => by rw [td_add]; exact hb3 k u (by
        have hk := (List.getElem?_eq_some_iff.1 hu).1
        rw [← hu]
        show ((x.fr.cells A7 c7).toList ++ [.int .i64 x.code, .int .i64 x.st])[k]? = _
        rw [List.getElem?_append_left hk])⟩
      clear hm hil hx ha1 ha2 ha3 hb1 hb2 hb3
      go_upto_region 6 with fail
      refine start_ (n := 25) (S := fun w' => w'.cell? ⟨(ad.add (i * 13)).block, (ad.add (i * 13)).off + 11, none⟩ = some (.int .i64 x.code) ∧ w'.cell? ⟨(ad.add (i * 13)).block, (ad.add (i * 13)).off + 12, none⟩ = some (.int .i64 x.st) ∧ w'.cell? ⟨(ae.add (i * 13)).block, (ae.add (i * 13)).off + 11, none⟩ = some (.int .i64 x.code) ∧ w'.cell? ⟨(ae.add (i * 13)).block, (ae.add (i * 13)).off + 12, none⟩ = some (.int .i64 x.st) ∧ (∀ k u, (x.fr.cells A6 c6).toList[k]? = some u → w'.cell? ((ad.add (i * 13)).add k) = some u) ∧ (∀ k u, (x.fr.cells A7 c7).toList[k]? = some u → w'.cell? ((ae.add (i * 13)).add k) = some u) ∧ Below wr.heap.size wr w') (ds := []) #[false, false, false, false, false, false, false, false, false, false, false, false, false, false, false, false, false, false, false, false, false, false, false, false, false] (by kernel_rfl) rfl rfl ⟨XA1.out, XA2.out, XB1.out, XB2.out, fun k u hu => XA.out k u hu, fun k u hu => XB.out k u hu, below_drew (Below.refl _ _)⟩ (fun hHeld => ?_)
      refine pure_ (i := 0) (N := some 17) (v := ?_) (a' := ?_) #[true, false, false, false, false, false, false, false, false, false, false, false, false, false, false, false, false, false, false, false, false, false, false, false, false] rfl rfl (by kernel_rfl) (fun _ _ _ h => h) (Or.inl ⟨by rfl, ?_⟩) ?_ ?_
      rotate_left
      · intro w'
        go_simp
        with_reducible rfl
      rotate_left
      · simp only [Act.put, List.setIfInBounds_toArray, List.set_cons_zero, List.set_cons_succ, i64_w, i32_w]
        rfl
      refine pure_ (i := 1) (N := some 18) (v := ?_) (a' := ?_) #[true, true, false, false, false, false, false, false, false, false, false, false, false, false, false, false, false, false, false, false, false, false, false, false, false] rfl rfl (by kernel_rfl) (fun _ _ _ h => h) (Or.inl ⟨by rfl, ?_⟩) ?_ ?_
      rotate_left
      · intro w'
        go_simp
        with_reducible rfl
      rotate_left
      · simp only [Act.put, List.setIfInBounds_toArray, List.set_cons_zero, List.set_cons_succ, i64_w, i32_w]
        rfl
      refine pure_ (i := 2) (N := some 19) (v := ?_) (a' := ?_) #[true, true, true, false, false, false, false, false, false, false, false, false, false, false, false, false, false, false, false, false, false, false, false, false, false] rfl rfl (by kernel_rfl) (fun _ _ _ h => h) (Or.inl ⟨by rfl, ?_⟩) ?_ ?_
      rotate_left
      · intro w'
        go_simp
        with_reducible rfl
      rotate_left
      · simp only [Act.put, List.setIfInBounds_toArray, List.set_cons_zero, List.set_cons_succ, i64_w, i32_w]
        rfl
      refine pure_ (i := 3) (N := some 20) (v := ?_) (a' := ?_) #[true, true, true, true, false, false, false, false, false, false, false, false, false, false, false, false, false, false, false, false, false, false, false, false, false] rfl rfl (by kernel_rfl) (fun _ _ _ h => h) (Or.inl ⟨by rfl, ?_⟩) ?_ ?_
      rotate_left
      · intro w'
        go_simp
        with_reducible rfl
      rotate_left
      · simp only [Act.put, List.setIfInBounds_toArray, List.set_cons_zero, List.set_cons_succ, i64_w, i32_w]
        rfl
      refine pure_ (i := 5) (N := some 22) (v := ?_) (a' := ?_) #[true, true, true, true, false, true, false, false, false, false, false, false, false, false, false, false, false, false, false, false, false, false, false, false, false] rfl rfl (by kernel_rfl) (fun _ _ _ h => h) (Or.inl ⟨by rfl, ?_⟩) ?_ ?_
      rotate_left
      · intro w'
        go_simp
        with_reducible rfl
      rotate_left
      · simp only [Act.put, List.setIfInBounds_toArray, List.set_cons_zero, List.set_cons_succ, i64_w, i32_w]
        rfl
      refine pure_ (i := 6) (N := some 23) (v := ?_) (a' := ?_) #[true, true, true, true, false, true, true, false, false, false, false, false, false, false, false, false, false, false, false, false, false, false, false, false, false] rfl rfl (by kernel_rfl) (fun _ _ _ h => h) (Or.inl ⟨by rfl, ?_⟩) ?_ ?_
      rotate_left
      · intro w'
        go_simp
        with_reducible rfl
      rotate_left
      · simp only [Act.put, List.setIfInBounds_toArray, List.set_cons_zero, List.set_cons_succ, i64_w, i32_w]
        rfl
      refine pure_ (i := 7) (N := some 24) (v := ?_) (a' := ?_) #[true, true, true, true, false, true, true, true, false, false, false, false, false, false, false, false, false, false, false, false, false, false, false, false, false] rfl rfl (by kernel_rfl) (fun _ _ _ h => h) (Or.inl ⟨by rfl, ?_⟩) ?_ ?_
      rotate_left
      · intro w'
        go_simp
        with_reducible rfl
      rotate_left
      · simp only [Act.put, List.setIfInBounds_toArray, List.set_cons_zero, List.set_cons_succ, i64_w, i32_w]
        rfl
      refine pure_ (i := 8) (N := some 25) (v := ?_) (a' := ?_) #[true, true, true, true, false, true, true, true, true, false, false, false, false, false, false, false, false, false, false, false, false, false, false, false, false] rfl rfl (by kernel_rfl) (fun _ _ _ h => h) (Or.inl ⟨by rfl, ?_⟩) ?_ ?_
      rotate_left
      · intro w'
        go_simp
        with_reducible rfl
      rotate_left
      · simp only [Act.put, List.setIfInBounds_toArray, List.set_cons_zero, List.set_cons_succ, i64_w, i32_w]
        rfl
      refine take_ (i := 4) (N := some 21) (v := ?_) (a' := ?_) #[true, true, true, true, true, true, true, true, true, false, false, false, false, false, false, false, false, false, false, false, false, false, false, false, false] rfl rfl (by kernel_rfl) (fun _ _ _ h => h) (Or.inl ⟨by rfl, ?_⟩) hHeld ?_ ?_
      rotate_left
      · rintro w' ⟨s0, s1, s2, s3, s4, s5, s6⟩
        go_simp
        with_reducible rfl
      rotate_left
      · simp only [Act.put, List.setIfInBounds_toArray, List.set_cons_zero, List.set_cons_succ, i64_w, i32_w]
        rfl
      refine take_ (i := 9) (N := some 26) (v := ?_) (a' := ?_) #[true, true, true, true, true, true, true, true, true, true, false, false, false, false, false, false, false, false, false, false, false, false, false, false, false] rfl rfl (by kernel_rfl) (fun _ _ _ h => h) (Or.inl ⟨by rfl, ?_⟩) hHeld ?_ ?_
      rotate_left
      · rintro w' ⟨s0, s1, s2, s3, s4, s5, s6⟩
        go_simp
        with_reducible rfl
      rotate_left
      · simp only [Act.put, List.setIfInBounds_toArray, List.set_cons_zero, List.set_cons_succ, i64_w, i32_w]
        rfl
      refine pure_ (i := 10) (N := some 27) (v := ?_) (a' := ?_) #[true, true, true, true, true, true, true, true, true, true, true, false, false, false, false, false, false, false, false, false, false, false, false, false, false] rfl rfl (by kernel_rfl) (fun _ _ _ h => h) (Or.inl ⟨by rfl, ?_⟩) ?_ ?_
      rotate_left
      · intro w'
        go_simp
        with_reducible rfl
      rotate_left
      · simp only [Act.put, List.setIfInBounds_toArray, List.set_cons_zero, List.set_cons_succ, i64_w, i32_w]
        rfl
      refine pure_ (i := 11) (N := some 28) (v := ?_) (a' := ?_) #[true, true, true, true, true, true, true, true, true, true, true, true, false, false, false, false, false, false, false, false, false, false, false, false, false] rfl rfl (by kernel_rfl) (fun _ _ _ h => h) (Or.inl ⟨by rfl, ?_⟩) ?_ ?_
      rotate_left
      · intro w'
        go_simp
        with_reducible rfl
      rotate_left
      · simp only [Act.put, List.setIfInBounds_toArray, List.set_cons_zero, List.set_cons_succ, i64_w, i32_w]
        rfl
      refine pure_ (i := 12) (N := some 29) (v := ?_) (a' := ?_) #[true, true, true, true, true, true, true, true, true, true, true, true, true, false, false, false, false, false, false, false, false, false, false, false, false] rfl rfl (by kernel_rfl) (fun _ _ _ h => h) (Or.inl ⟨by rfl, ?_⟩) ?_ ?_
      rotate_left
      · intro w'
        go_simp
        with_reducible rfl
      rotate_left
      · simp only [Act.put, List.setIfInBounds_toArray, List.set_cons_zero, List.set_cons_succ, i64_w, i32_w]
        rfl
      refine pure_ (i := 13) (N := some 30) (v := ?_) (a' := ?_) #[true, true, true, true, true, true, true, true, true, true, true, true, true, true, false, false, false, false, false, false, false, false, false, false, false] rfl rfl (by kernel_rfl) (fun _ _ _ h => h) (Or.inl ⟨by rfl, ?_⟩) ?_ ?_
      rotate_left
      · intro w'
        go_simp
        with_reducible rfl
      rotate_left
      · simp only [Act.put, List.setIfInBounds_toArray, List.set_cons_zero, List.set_cons_succ, i64_w, i32_w]
        rfl
      refine pure_ (i := 14) (N := some 31) (v := ?_) (a' := ?_) #[true, true, true, true, true, true, true, true, true, true, true, true, true, true, true, false, false, false, false, false, false, false, false, false, false] rfl rfl (by kernel_rfl) (fun _ _ _ h => h) (Or.inl ⟨by rfl, ?_⟩) ?_ ?_
      rotate_left
      · intro w'
        go_simp
        with_reducible rfl
      rotate_left
      · simp only [Act.put, List.setIfInBounds_toArray, List.set_cons_zero, List.set_cons_succ, i64_w, i32_w]
        rfl
      refine pure_ (i := 15) (N := some 32) (v := ?_) (a' := ?_) #[true, true, true, true, true, true, true, true, true, true, true, true, true, true, true, true, false, false, false, false, false, false, false, false, false] rfl rfl (by kernel_rfl) (fun _ _ _ h => h) (Or.inl ⟨by rfl, ?_⟩) ?_ ?_
      rotate_left
      · intro w'
        go_simp
        with_reducible rfl
      rotate_left
      · simp only [Act.put, List.setIfInBounds_toArray, List.set_cons_zero, List.set_cons_succ, i64_w, i32_w]
        rfl
      refine pure_ (i := 17) (N := some 34) (v := ?_) (a' := ?_) #[true, true, true, true, true, true, true, true, true, true, true, true, true, true, true, true, false, true, false, false, false, false, false, false, false] rfl rfl (by kernel_rfl) (fun _ _ _ h => h) (Or.inl ⟨by rfl, ?_⟩) ?_ ?_
      rotate_left
      · intro w'
        go_simp
        with_reducible rfl
      rotate_left
      · simp only [Act.put, List.setIfInBounds_toArray, List.set_cons_zero, List.set_cons_succ, i64_w, i32_w]
        rfl
      refine pure_ (i := 18) (N := some 35) (v := ?_) (a' := ?_) #[true, true, true, true, true, true, true, true, true, true, true, true, true, true, true, true, false, true, true, false, false, false, false, false, false] rfl rfl (by kernel_rfl) (fun _ _ _ h => h) (Or.inl ⟨by rfl, ?_⟩) ?_ ?_
      rotate_left
      · intro w'
        go_simp
        with_reducible rfl
      rotate_left
      · simp only [Act.put, List.setIfInBounds_toArray, List.set_cons_zero, List.set_cons_succ, i64_w, i32_w]
        rfl
      refine pure_ (i := 19) (N := some 36) (v := ?_) (a' := ?_) #[true, true, true, true, true, true, true, true, true, true, true, true, true, true, true, true, false, true, true, true, false, false, false, false, false] rfl rfl (by kernel_rfl) (fun _ _ _ h => h) (Or.inl ⟨by rfl, ?_⟩) ?_ ?_
      rotate_left
      · intro w'
        go_simp
        with_reducible rfl
      rotate_left
      · simp only [Act.put, List.setIfInBounds_toArray, List.set_cons_zero, List.set_cons_succ, i64_w, i32_w]
        rfl
      refine pure_ (i := 20) (N := some 37) (v := ?_) (a' := ?_) #[true, true, true, true, true, true, true, true, true, true, true, true, true, true, true, true, false, true, true, true, true, false, false, false, false] rfl rfl (by kernel_rfl) (fun _ _ _ h => h) (Or.inl ⟨by rfl, ?_⟩) ?_ ?_
      rotate_left
      · intro w'
        go_simp
        with_reducible rfl
      rotate_left
      · simp only [Act.put, List.setIfInBounds_toArray, List.set_cons_zero, List.set_cons_succ, i64_w, i32_w]
        rfl
      refine take_ (i := 16) (N := some 33) (v := ?_) (a' := ?_) #[true, true, true, true, true, true, true, true, true, true, true, true, true, true, true, true, true, true, true, true, true, false, false, false, false] rfl rfl (by kernel_rfl) (fun _ _ _ h => h) (Or.inl ⟨by rfl, ?_⟩) hHeld ?_ ?_
      rotate_left
      · rintro w' ⟨s0, s1, s2, s3, s4, s5, s6⟩
        refine load_list_run 24 (.tmp 32) ?_ (ad.add (i * 13)) ?_ (x.fr.cells A6 c6) _ s4 Tryd.underlying24 ?_ ?_ <;> first | rfl | kernel_rfl
      rotate_left
      · simp only [Act.put, List.setIfInBounds_toArray, List.set_cons_zero, List.set_cons_succ, i64_w, i32_w]
        rfl
      refine take_ (i := 21) (N := some 38) (v := ?_) (a' := ?_) #[true, true, true, true, true, true, true, true, true, true, true, true, true, true, true, true, true, true, true, true, true, true, false, false, false] rfl rfl (by kernel_rfl) (fun _ _ _ h => h) (Or.inl ⟨by rfl, ?_⟩) hHeld ?_ ?_
      rotate_left
      · rintro w' ⟨s0, s1, s2, s3, s4, s5, s6⟩
        refine load_list_run 24 (.tmp 37) ?_ (ae.add (i * 13)) ?_ (x.fr.cells A7 c7) _ s5 Tryd.underlying24 ?_ ?_ <;> first | rfl | kernel_rfl
      rotate_left
      · simp only [Act.put, List.setIfInBounds_toArray, List.set_cons_zero, List.set_cons_succ, i64_w, i32_w]
        rfl
      refine one_ (i := 22) (N := some 39) #[true, true, true, true, true, true, true, true, true, true, true, true, true, true, true, true, true, true, true, true, true, true, true, false, false] rfl rfl (by kernel_rfl) (by decide) (fun K hK => ?_)
      refine goes_ Tryd.func41 (by kernel_rfl) rfl #[.agg (x.fr.cells A6 c6), .agg (x.fr.cells A7 c7)] (by rfl) rfl rfl (by simp only [List.map_toArray, List.map_cons, List.map_nil]; rfl) ?_
      with_reducible refine (same7_calls x.fr A6 A7 c6 c7 _ (C_le CA.out.1) (Kd.C_below CA.out.1 hHeld.2.2.2.2.2.2) CA.out.2 (Kd.C_below CB.out.1 hHeld.2.2.2.2.2.2) CB.out.2).mono ?_
      rintro e w18 ⟨rfl, hb⟩
      refine ⟨_, rfl, ?_⟩
      refine hK.out _ _ ⟨(hb.cell (World.block_lt_of_cell? _ _ hHeld.1)).trans hHeld.1, (hb.cell (World.block_lt_of_cell? _ _ hHeld.2.1)).trans hHeld.2.1, (hb.cell (World.block_lt_of_cell? _ _ hHeld.2.2.1)).trans hHeld.2.2.1, (hb.cell (World.block_lt_of_cell? _ _ hHeld.2.2.2.1)).trans hHeld.2.2.2.1, fun k u hu => (hb.cell (World.block_lt_of_cell? _ _ (hHeld.2.2.2.2.1 k u hu))).trans (hHeld.2.2.2.2.1 k u hu), fun k u hu => (hb.cell (World.block_lt_of_cell? _ _ (hHeld.2.2.2.2.2.1 k u hu))).trans (hHeld.2.2.2.2.2.1 k u hu), below_then hHeld.2.2.2.2.2.2 hHeld.2.2.2.2.2.2.size hb⟩ (fun hHeld => ?_)
      clear hK K
      refine norm_ (a' := ?_) ?_ ?_
      rotate_left
      · show Act.put _ (some 39) _ = _
        simp only [Act.put, List.setIfInBounds_toArray, List.set_cons_zero, List.set_cons_succ, i64_w, i32_w]
        rfl
      refine pure_ (i := 23) (N := some 40) (v := ?_) (a' := ?_) #[true, true, true, true, true, true, true, true, true, true, true, true, true, true, true, true, true, true, true, true, true, true, true, true, false] rfl rfl (by kernel_rfl) (fun _ _ _ h => h) (Or.inl ⟨by rfl, ?_⟩) ?_ ?_
      rotate_left
      · intro w'
        go_simp
        with_reducible rfl
      rotate_left
      · simp only [Act.put, List.setIfInBounds_toArray, List.set_cons_zero, List.set_cons_succ, i64_w, i32_w]
        rfl
      refine pure_ (i := 24) (N := some 41) (v := ?_) (a' := ?_) #[true, true, true, true, true, true, true, true, true, true, true, true, true, true, true, true, true, true, true, true, true, true, true, true, true] rfl rfl (by kernel_rfl) (fun _ _ _ h => h) (Or.inl ⟨by rfl, ?_⟩) ?_ ?_
      rotate_left
      · intro w'
        go_simp
        with_reducible rfl
      rotate_left
      · simp only [Act.put, List.setIfInBounds_toArray, List.set_cons_zero, List.set_cons_succ, i64_w, i32_w]
        rfl
      refine done_ (by kernel_rfl) ?_
      have hb := hHeld.2.2.2.2.2.2
      have H1n := Aside0.mk (Kd.C_below H1.out hb)
      have H3n := Aside0.mk (Kd.C_below H3.out hb)
      have HBn := Aside0.mk (below_then HB.out HB.out.size hb)
      clear hb hHeld XA1 XA2 XB1 XB2 XA XB CA CB
      go_wp2_with fail
      go_roundw
      case rel => exact ⟨m, congrArg (Value.int .i64) hw1, ⟨by have := HIM.out; omega⟩, H1n, H3n, HBn⟩
      case measure =>
        rw [hw1]
        show ((L.length : Int) - (m : Int)).toNat < ((L.length : Int) - (i : Int)).toNat
        have := HIM.out
        omega
    · have d1 : decide ((i : Int) < (L.length : Int)) = false := decide_eq_false (by omega)
      have d2 : decide (i < L.length) = false := decide_eq_false hil
      clear hil
      go_wp2_with fail
      go_ret
      exact ⟨rfl, HB.out⟩
end Go.Proofs.YtoffhlbdfhhhjaaDoor.Fr
