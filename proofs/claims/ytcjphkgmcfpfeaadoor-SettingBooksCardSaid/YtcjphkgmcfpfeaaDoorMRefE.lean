/- The document's answer for settings, by hand: Tables. The package's variable 'top' holds what the program lays; the list fits in memory. -/
import Derived.Test.YtcjphkgmcfpfeaaDoorMRefB
import Derived.StillTailTactics
import Derived.BigQuiet
namespace Go.Proofs.YtcjphkgmcfpfeaaDoor.MS
open Go Go.RowKit Go.Proofs.YtcjphkgmcfpfeaaDoorW.PrintWords Go.Proofs.YtcjphkgmcfpfeaaDoorW.PrintLast Go.Proofs.YtcjphkgmcfpfeaaDoorW.PrintMore Go.Proofs.YtcjphkgmcfpfeaaDoor.QL
attribute [local go_sem] max2_int min2_int max_two min_two
set_option linter.unusedSimpArgs false
set_option linter.unusedVariables false
set_option maxHeartbeats 8000000
set_option maxRecDepth 100000
/-- The values of Table, in order. -/
def tables : List S28 → List Int
  | [] => []
  | p :: t => (if p.f0 = 1 then [mn p.f1 2147483647] else []) ++ tables t
theorem tables_append (a b : List S28) : tables (a ++ b) = tables a ++ tables b := by
  induction a with
  | nil => rfl
  | cons p t ih => simp [tables, ih]
theorem tables_take (l : List S28) (n : Nat) (h : n < l.length) : tables (l.take (n + 1)) = tables (l.take n) ++ (if (rd_T28 l (n : Int)).f0 = 1 then [mn (rd_T28 l (n : Int)).f1 2147483647] else []) := by
  have e : rd_T28 l (n : Int) = l[n] := by simp [rd_T28, h]
  rw [List.take_succ_eq_append_getElem h, tables_append, e]
  simp [tables]
theorem tables_len (l : List S28) : (tables l).length ≤ l.length := by
  induction l with
  | nil => simp [tables]
  | cons p t ih => simp only [tables, List.length_append, List.length_cons]; split <;> simp <;> omega
theorem tables8_calls (A : Option Addr) (c : Nat) (l : List S28) (w : World) (hr : Kd.C k28 w A l.length l) (hc : l.length ≤ c) (hz : l.length * 8 ≤ 140737488351232) (hT : GT w) :
    Calls Tryd.prog 16 #[.slice A l.length c] w fun e w' => ∃ v0_ : Value, e = .returned v0_ ∧ Kd.R (Kd.int .i64) 2 w' w.heap.size (fun _ => True) v0_ (tables l) ∧ Below w.heap.size w w' := by
  have HR := Aside0.mk hr
  have HT := Aside0.mk hT
  have HZ := Aside0.mk hz
  have hl63 : l.length ≤ 9223372036854775807 := hr.2.1
  clear hr hc hT hz
  go_enter Tryd.func16, Tryd.ntmps16
  go_wp2_with fail
  go_loopw [3, 4] (fun u i w' => ∃ n : Nat, n ≤ l.length ∧ i = .int .i64 n ∧ Aside0 (Kd.R (Kd.int .i64) 2 w' w.heap.size (fun _ => True) u (tables (l.take n))) ∧ Aside0 (Below w.heap.size w w')) (fun _ i _ => l.length - (intOf i).toNat)
  case atStart => exact ⟨0, Nat.zero_le _, rfl, ⟨Kd.R_nil _ _ _ _ _⟩, ⟨Below.refl _ _⟩⟩
  case round =>
    obtain ⟨n, hn, rfl, HV, HW⟩ := hrel
    by_cases hlt : n < l.length
    · have p0 : (0 : Int) ≤ n := by omega
      have q0 : (n : Int) < (l.length : Int) := by omega
      obtain ⟨ad, e0, y0, y1⟩ := at_T28 HR.out n p0 q0
      cases e0
      replace y0 := (HW.out.cell (World.block_lt_of_cell? w _ y0)).trans y0
      replace y1 := (HW.out.cell (World.block_lt_of_cell? w _ y1)).trans y1
      have htt := tables_take l n hlt
      obtain ⟨id, hid⟩ : ∃ K, (rd_T28 l (n : Int)).f0 = K := ⟨_, rfl⟩
      obtain ⟨v, hv⟩ : ∃ K, (rd_T28 l (n : Int)).f1 = K := ⟨_, rfl⟩
      simp only [Int.toNat_natCast] at y0 y1
      rw [hid] at y0 htt
      rw [hv] at y1 htt
      have HTT := Aside0.mk htt
      clear hid hv htt
      by_cases h1 : id = 1
      · subst h1
        have g0 := (HT.out.below HW.out).1
        obtain ⟨m, hm⟩ : ∃ m : Int, (if (2147483647 : Int) < v then (2147483647 : Int) else v) = m := ⟨_, rfl⟩
        have HM : Aside0 (mn v 2147483647 = m) := ⟨hm⟩
        go_upto_region 6 with fail
        have HV2 := Aside0.mk (Kd.R_below HV.out (below_drew (Below.refl _ _)))
        have HW2 := Aside0.mk (below_drew HW.out)
        refine start_ (n := 12) (S := fun w' => w'.cell? ⟨(ad.add (n * 2)).block, (ad.add (n * 2)).off + 1, none⟩ = some (.int .i64 v) ∧ w'.cell? ⟨0, 0, none⟩ = some (.int .i64 2147483647)) (ds := [10]) #[false, false, false, false, false, false, false, false, false, false, false, false] (by kernel_rfl) rfl rfl ⟨y1, g0⟩ (fun hHeld => ?_)
        refine pure_ (i := 0) (N := some 17) (v := ?_) (a' := ?_) #[true, false, false, false, false, false, false, false, false, false, false, false] rfl rfl (by kernel_rfl) (fun _ _ _ h => h) (Or.inl ⟨by rfl, ?_⟩) ?_ ?_
        rotate_left
        · intro w'
          go_simp
          with_reducible rfl
        rotate_left
        · simp only [Act.put, List.setIfInBounds_toArray, List.set_cons_zero, List.set_cons_succ, i64_w, i32_w]
          rfl
        refine pure_ (i := 1) (N := some 18) (v := ?_) (a' := ?_) #[true, true, false, false, false, false, false, false, false, false, false, false] rfl rfl (by kernel_rfl) (fun _ _ _ h => h) (Or.inl ⟨by rfl, ?_⟩) ?_ ?_
        rotate_left
        · intro w'
          go_simp
          with_reducible rfl
        rotate_left
        · simp only [Act.put, List.setIfInBounds_toArray, List.set_cons_zero, List.set_cons_succ, i64_w, i32_w]
          rfl
        refine pure_ (i := 2) (N := some 19) (v := ?_) (a' := ?_) #[true, true, true, false, false, false, false, false, false, false, false, false] rfl rfl (by kernel_rfl) (fun _ _ _ h => h) (Or.inl ⟨by rfl, ?_⟩) ?_ ?_
        rotate_left
        · intro w'
          go_simp
          with_reducible rfl
        rotate_left
        · simp only [Act.put, List.setIfInBounds_toArray, List.set_cons_zero, List.set_cons_succ, i64_w, i32_w]
          rfl
        refine pure_ (i := 3) (N := some 20) (v := ?_) (a' := ?_) #[true, true, true, true, false, false, false, false, false, false, false, false] rfl rfl (by kernel_rfl) (fun _ _ _ h => h) (Or.inl ⟨by rfl, ?_⟩) ?_ ?_
        rotate_left
        · intro w'
          go_simp
          with_reducible rfl
        rotate_left
        · simp only [Act.put, List.setIfInBounds_toArray, List.set_cons_zero, List.set_cons_succ, i64_w, i32_w]
          rfl
        refine pure_ (i := 4) (N := some 21) (v := ?_) (a' := ?_) #[true, true, true, true, true, false, false, false, false, false, false, false] rfl rfl (by kernel_rfl) (fun _ _ _ h => h) (Or.inl ⟨by rfl, ?_⟩) ?_ ?_
        rotate_left
        · intro w'
          go_simp
          with_reducible rfl
        rotate_left
        · simp only [Act.put, List.setIfInBounds_toArray, List.set_cons_zero, List.set_cons_succ, i64_w, i32_w]
          rfl
        refine pure_ (i := 6) (N := some 23) (v := ?_) (a' := ?_) #[true, true, true, true, true, false, true, false, false, false, false, false] rfl rfl (by kernel_rfl) (fun _ _ _ h => h) (Or.inl ⟨by rfl, ?_⟩) ?_ ?_
        rotate_left
        · intro w'
          go_simp
          with_reducible rfl
        rotate_left
        · simp only [Act.put, List.setIfInBounds_toArray, List.set_cons_zero, List.set_cons_succ, i64_w, i32_w]
          rfl
        refine take_ (i := 5) (N := some 22) (v := ?_) (a' := ?_) #[true, true, true, true, true, true, true, false, false, false, false, false] rfl rfl (by kernel_rfl) (fun _ _ _ h => h) (Or.inl ⟨by rfl, ?_⟩) hHeld ?_ ?_
        rotate_left
        · rintro w' ⟨s0, s1⟩
          go_simp
          with_reducible rfl
        rotate_left
        · simp only [Act.put, List.setIfInBounds_toArray, List.set_cons_zero, List.set_cons_succ, i64_w, i32_w]
          rfl
        refine take_ (i := 7) (N := some 24) (v := ?_) (a' := ?_) #[true, true, true, true, true, true, true, true, false, false, false, false] rfl rfl (by kernel_rfl) (fun _ _ _ h => h) (Or.inl ⟨by rfl, ?_⟩) hHeld ?_ ?_
        rotate_left
        · rintro w' ⟨s0, s1⟩
          go_simp
          with_reducible rfl
        rotate_left
        · simp only [Act.put, List.setIfInBounds_toArray, List.set_cons_zero, List.set_cons_succ, i64_w, i32_w]
          rfl
        refine pure_ (i := 8) (N := some 25) (v := ?_) (a' := ?_) #[true, true, true, true, true, true, true, true, true, false, false, false] rfl rfl (by kernel_rfl) (fun _ _ _ h => h) (Or.inl ⟨by rfl, ?_⟩) ?_ ?_
        rotate_left
        · intro w'
          go_simp
          with_reducible rfl
        rotate_left
        · simp only [Act.put, List.setIfInBounds_toArray, List.set_cons_zero, List.set_cons_succ, i64_w, i32_w]
          rfl
        refine one_ (i := 9) (N := some 26) #[true, true, true, true, true, true, true, true, true, true, false, false] rfl rfl (by kernel_rfl) (by decide) (fun K hK => ?_)
        refine value_ (w1 := ?_) (v := ?_) (by rfl) rfl ?_ ?_
        rotate_left 2
        · go_simp
          constructor
          · rfl
          · rfl
        refine hK.out _ _ ⟨((below_alloc (Below.refl _ _) (.cells #[.int .i64 m] 2)).cell (World.block_lt_of_cell? _ _ hHeld.1)).trans hHeld.1, ((below_alloc (Below.refl _ _) (.cells #[.int .i64 m] 2)).cell (World.block_lt_of_cell? _ _ hHeld.2)).trans hHeld.2⟩ (fun hHeld => ?_)
        clear hK K
        refine norm_ (a' := ?_) ?_ ?_
        rotate_left
        · show Act.put _ (some 26) _ = _
          simp only [Act.put, List.setIfInBounds_toArray, List.set_cons_zero, List.set_cons_succ, i64_w, i32_w]
          rfl
        refine last_ (i := 10) (N := some 27) #[true, true, true, true, true, true, true, true, true, true, true, false] rfl rfl (by kernel_rfl) (by decide) (fun K hK => ?_)
        change if Region.wanted _ _ = true then Oper.wp _ _ _ (World.alloc (World.drew wr) (Obj.cells #[Value.int .i64 m] 2)) _ _ else _
        refine Kd.R_append_step (Kd.int .i64) (w0 := w) w.heap.size (by rfl) (.tmp 17) (.tmp 26) 31 2 (.int .i64 0) 8 rfl Tryd.underlying31 info2 rfl (by decide) (by omega) u3 (tables (l.take n)) m [.int .i64 m] (fun _ => True) (fun _ => False) rfl rfl ?aP (fun _ h => h.elim) ?aF ?aO ?aB ?aS ?aL ?_
        (case aP => rfl)
        (case aF => exact fun _ _ => trivial)
        (case aO => exact HV2.out)
        (case aB => exact HW2.out)
        (case aS => exact HW2.out.size)
        (case aL => have := tables_len (l.take n); have := HZ.out; rw [List.length_take] at *; omega)
        intro v1 w9 ho hb hg hat
        have HO := Aside0.mk ho
        have HBB := Aside0.mk hb
        have hgg := hg
        clear ho hb hg hat
        refine hK.out _ _ ?_
        clear hK K
        refine norm_ (a' := ?_) ?_ ?_
        rotate_left
        · show Act.put _ (some 27) _ = _
          simp only [Act.put, List.setIfInBounds_toArray, List.set_cons_zero, List.set_cons_succ, i64_w, i32_w]
          rfl
        refine pure_ (i := 11) (N := some 3) (v := ?_) (a' := ?_) #[true, true, true, true, true, true, true, true, true, true, true, true] rfl rfl (by kernel_rfl) (fun _ _ _ h => h) (Or.inl ⟨by rfl, ?_⟩) ?_ ?_
        rotate_left
        · intro w'
          go_simp
          with_reducible rfl
        rotate_left
        · simp only [Act.put, List.setIfInBounds_toArray, List.set_cons_zero, List.set_cons_succ, i64_w, i32_w]
          rfl
        refine done_ (by kernel_rfl) ?_
        go_wp2_with fail
        go_roundw
        case rel => exact ⟨n + 1, by omega, by go_num, ⟨by rw [HTT.out, if_pos rfl, HM.out]; exact HO.out⟩, HBB⟩
        case measure => simp [intOf]; omega
      · have h1b : (id == 1) = false := beq_eq_false_iff_ne.mpr h1
        have H1 := Aside0.mk h1
        clear h1
        go_wp2_with fail
        go_roundw
        case rel => exact ⟨n + 1, by omega, by go_num, ⟨by rw [HTT.out, if_neg H1.out, List.append_nil]; exact HV.out⟩, HW⟩
        case measure => simp [intOf]; omega
    · have hlt2 : decide ((n : Int) < (l.length : Int)) = false := decide_eq_false (by omega)
      have hn2 : Aside0 (n = l.length) := ⟨by omega⟩
      go_wp2_with fail
      go_ret
      exact ⟨_, rfl, by have h := HV.out; rw [hn2.out, List.take_length] at h; exact h, HW.out⟩
end Go.Proofs.YtcjphkgmcfpfeaaDoor.MS
