/- The law's lent list, by hand: a list with two marks behind it in its spare room, and that it is kept. The list fits in memory. -/
import Derived.Test.YtcjphkgmcfpfeaaDoorMSetQ
namespace Go.Proofs.YtcjphkgmcfpfeaaDoor.MS
open Go Go.RowKit Go.Proofs.YtcjphkgmcfpfeaaDoorW.PrintWords Go.Proofs.YtcjphkgmcfpfeaaDoorW.PrintLast Go.Proofs.YtcjphkgmcfpfeaaDoorW.PrintMore Go.Proofs.YtcjphkgmcfpfeaaDoor.QL
set_option linter.unusedSimpArgs false
set_option linter.unusedVariables false
set_option maxHeartbeats 8000000
set_option maxRecDepth 100000
attribute [local go_sem high] eqA28
abbrev marks : List S28 := [⟨-7, -1⟩, ⟨-8, -2⟩]
theorem cut_cap (t e : TypeId) (kh : IntKind) {P : Program} {i : TypeInfo} (ht : P.underlying t = some (.slice e)) (hi : P.info? e = some i) (A : Option Addr) (n c : Nat) (j : Int) (h0 : 0 ≤ j) (hm : j ≤ c) :
    ∀ W : World, (Instr.slice t (.slice A n c) none (some (.int kh j)) none).run P W = .ok (.slice A j.toNat c) W := by
  intro W
  have hel : P.elem t = e := by simp [Program.elem, ht]
  have hu : P.underlying t = some (.slice (P.elem t)) := by rw [hel]; exact ht
  have ha : (A.map fun x => x.add 0) = A := by cases A <;> simp [Addr.add]
  rw [run_slice_h W t A n c hu kh j h0 (by omega), hel]
  simp [sizeOf, typeInfo, hi, sliced, Result.andThen, ha]
theorem lent_calls (A : Option Addr) (c : Nat) (l : List S28) (w : World) (hr : Kd.C k28 w A l.length l) (hc : l.length ≤ c) (hz : l.length * 16 ≤ 140737488351232) :
    Calls Tryd.prog 8 #[.slice A l.length c] w fun e w' => ∃ A1 c1, e = .returned (.slice A1 l.length c1) ∧ l.length + 2 ≤ c1 ∧ Kd.R k28 28 w' w.heap.size (fun _ => True) (.slice A1 (l.length + 2) c1) (l ++ marks) ∧ Below w.heap.size w w' := by
  have HR := Aside0.mk hr
  have HZ := Aside0.mk hz
  have hl63 : l.length ≤ 9223372036854775807 := hr.2.1
  clear hr hc hz
  go_enter Tryd.func8, Tryd.ntmps8
  go_upto_region 3 with (first
    | ((with_reducible refine gate_builtin (b := .append) (xs := #[.tmp 4, .tmp 5]) rfl ?_); at_builtin; refine Kd.R_append_rows k28 (w0 := w) w.heap.size rfl (.tmp 4) (.tmp 5) 24 28 (.agg #[.int .i64 0, .int .i64 0]) 16 rfl Tryd.underlying24 info28 rfl (by decide) (by omega) (.slice none 0 0) [] l A l.length c (fun _ => True) (fun _ => False) rfl rfl ?aO ?aR (fun _ _ h => h) (fun _ h => h.elim) ?aF ?aB ?aS ?aL ?_; (case aO => exact Kd.R_nil _ _ _ _ _); (case aR => exact HR.out); (case aF => exact fun _ _ => trivial); (case aB => exact Below.refl _ _); (case aS => exact Nat.le_refl _); (case aL => have := HZ.out; simp; omega); intro v6 w6 ho hb hg hat; rw [List.nil_append] at ho; have HO6 := Aside0.mk ho; have L6 := Aside0.mk hb; clear ho hb hg hat))
  obtain ⟨i0, hi0, _, hsz0, _⟩ := info_parts info28
  have HI0 := Aside0.mk hi0
  clear hsz0 hi0
  go_wp2_with (first
    | ((with_reducible refine gate_builtin (b := .append) (xs := #[.tmp 7, .tmp 10]) rfl ?_); at_builtin; refine Kd.R_append_rows k28 (w0 := w) w.heap.size rfl (.tmp 7) (.tmp 10) 24 28 (.agg #[.int .i64 0, .int .i64 0]) 16 rfl Tryd.underlying24 info28 rfl (by decide) (by omega) v6 l marks (some ⟨w6.heap.size, 0, none⟩) 2 2 (fun _ => True) (fun _ => False) rfl rfl ?aO ?aR (fun _ _ h => h) (fun _ h => h.elim) ?aF ?aB ?aS ?aL ?_; (case aO => exact Kd.R_below HO6.out (below_alloc (Below.refl _ _) _)); (case aR => exact C_two w6 (-7) (-1) (-8) (-2) _ rfl); (case aF => exact fun _ _ => trivial); (case aB => exact below_alloc L6.out _); (case aS => have := L6.out.size; simp; omega); (case aL => have := HZ.out; omega); intro v11 w11 ho hb hg hat; obtain ⟨A11, c11, e11, hl11, hC11⟩ := Kd.R_reads ho; rw [List.length_append] at e11 hl11; (have e2 : marks.length = 2 := rfl); rw [e2] at e11 hl11; subst e11; have HO11 := Aside0.mk ho; have L11 := Aside0.mk hb; have HL11 := Aside0.mk hl11; (have hcut : ∀ W, (Instr.slice 24 (.slice A11 (l.length + 2) c11) none (some (.int .i64 (l.length : Int))) none).run Tryd.prog W = .ok (.slice A11 l.length c11) W := (by have h := cut_cap (P := Tryd.prog) 24 28 .i64 Tryd.underlying24 HI0.out A11 (l.length + 2) c11 (l.length : Int) (by omega) (by omega); rwa [Int.toNat_natCast] at h)); clear ho hb hg hat hl11 hC11))
  go_ret
  exact ⟨A11, c11, rfl, HL11.out, HO11.out, L11.out⟩
theorem same_ex2 (A B : Option Addr) (c d : Nat) (L : List S28) (hl : L.length ≤ 9223372036854775806) (w : World) (h1 : Kd.C k28 w A L.length L) (h2 : L.length ≤ c) (h3 : Kd.C k28 w B L.length L) (h4 : L.length ≤ d) : Calls Tryd.prog 17 #[.slice A L.length c, .slice B L.length d] w fun e w' => e = .returned (.bool true) ∧ Below w.heap.size w w' := (heraldlaw08_sameParams.calls (L.length + 1) A c L B d L true w h1 h2 h3 h4 (same_self L hl)).mono (fun _ _ h => ⟨h.1, by first | exact h.2 | exact h.2.below⟩)
theorem kept_calls (A B : Option Addr) (c d : Nat) (l : List S28) (w : World) (hA : Kd.C k28 w A (l.length + 2) (l ++ marks)) (hc : l.length + 2 ≤ c) (hB : Kd.C k28 w B l.length l) (hd : l.length ≤ d) (hz : l.length * 16 ≤ 140737488351232) :
    Calls Tryd.prog 23 #[.slice A l.length c, .slice B l.length d] w fun e w' => e = .returned (.bool true) ∧ Below w.heap.size w w' := by
  have HA := Aside0.mk hA
  have HB := Aside0.mk hB
  have HC := Aside0.mk hc
  have HD := Aside0.mk hd
  have HZ := Aside0.mk hz
  have hl63 : l.length ≤ 9223372036854775807 := hB.2.1
  have hll : (l ++ marks).length = l.length + 2 := by simp
  have CM : Aside0 (Kd.C k28 w A l.length l) := ⟨by
    rw [← hll] at hA
    have h := Kd.C_take (m := l.length) hA (by simp)
    rwa [List.take_left] at h⟩
  have e1 : wrap64 ((l.length : Int) + 2) = (l.length : Int) + 2 := by unfold wrap64; omega
  have e2 : wrap64 ((l.length : Int) + 1) = (l.length : Int) + 1 := by unfold wrap64; omega
  obtain ⟨i0, hi0, _, _, _⟩ := info_parts info28
  have hcut : ∀ W, (Instr.slice 24 (.slice A l.length c) none (some (.int .i64 ((l.length : Int) + 2))) none).run Tryd.prog W = .ok (.slice A (l.length + 2) c) W := by
    have h := cut_cap (P := Tryd.prog) 24 28 .i64 Tryd.underlying24 hi0 A l.length c ((l.length : Int) + 2) (by omega) (by omega)
    rwa [show ((l.length : Int) + 2).toNat = l.length + 2 by omega] at h
  obtain ⟨ad, eA, y0, y1⟩ := at_T28 hA (l.length : Int) (by omega) (by omega)
  obtain ⟨ad2, eA2, x0, x1⟩ := at_T28 hA ((l.length : Int) + 1) (by omega) (by omega)
  have r0 : rd_T28 (l ++ marks) (l.length : Int) = ⟨-7, -1⟩ := by simp [rd_T28]
  have r1 : rd_T28 (l ++ marks) ((l.length : Int) + 1) = ⟨-8, -2⟩ := by
    have : ((l.length : Int) + 1).toNat = l.length + 1 := by omega
    simp [rd_T28, this]
  rw [r0] at y0 y1
  rw [r1] at x0 x1
  rw [show ((l.length : Int) + 1).toNat = l.length + 1 by omega] at x0 x1
  simp only [Int.toNat_natCast] at y0 y1
  subst eA
  cases eA2
  have b0 : (l.length : Int) < (l.length : Int) + 2 := by omega
  have b1 : (l.length : Int) + 1 < (l.length : Int) + 2 := by omega
  have b2 : (0 : Int) ≤ (l.length : Int) + 1 := by omega
  clear hA hB hc hd hz hll r0 r1 hi0
  have hw := World.block_lt_of_cell? w _ y0
  go_enter Tryd.func23, Tryd.ntmps23
  go_wp2_with (first
    | (go_at_call 17; (with_reducible refine (same_ex2 (some ad) B c d l (by have := HZ.out; omega) _ CM.out (by have := HC.out; omega) HB.out HD.out).mono ?_); rintro e w13 ⟨rfl, hb⟩; have HB13 := Aside0.mk hb; have q0 := (hb.cell (World.block_lt_of_cell? _ _ y0)).trans y0; have q1 := (hb.cell (World.block_lt_of_cell? _ _ y1)).trans y1; have q2 := (hb.cell (World.block_lt_of_cell? _ _ x0)).trans x0; have q3 := (hb.cell (World.block_lt_of_cell? _ _ x1)).trans x1; clear hb))
  go_ret
  exact ⟨rfl, HB13.out⟩
end Go.Proofs.YtcjphkgmcfpfeaaDoor.MS
