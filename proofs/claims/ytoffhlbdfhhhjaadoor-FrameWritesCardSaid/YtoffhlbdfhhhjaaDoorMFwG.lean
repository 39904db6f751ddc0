/- Params that are lent with a mark behind them; kept. The list fits in memory. -/
import Derived.Test.YtoffhlbdfhhhjaaDoorMFg8
import Derived.Test.YtoffhlbdfhhhjaaDoorMFrK
namespace Go.Proofs.YtoffhlbdfhhhjaaDoor.Fr
open Go Go.RowKit Go.Proofs.YtoffhlbdfhhhjaaDoorW.PrintWords Go.Proofs.YtoffhlbdfhhhjaaDoorW.PrintLast Go.Proofs.YtoffhlbdfhhhjaaDoorW.PrintMore Go.Proofs.YtoffhlbdfhhhjaaDoor.QL
set_option linter.unusedSimpArgs false
set_option linter.unusedVariables false
set_option maxHeartbeats 8000000
set_option maxRecDepth 100000
attribute [local go_sem high] eqA32
theorem cut_cap {P : Program} (t e : TypeId) (kh : IntKind) {i : TypeInfo} (ht : P.underlying t = some (.slice e)) (hi : P.info? e = some i) (A : Option Addr) (n c : Nat) (j : Int) (h0 : 0 ≤ j) (hm : j ≤ c) :
    ∀ W : World, (Instr.slice t (.slice A n c) none (some (.int kh j)) none).run P W = .ok (.slice A j.toNat c) W := by
  intro W
  have hel : P.elem t = e := by simp [Program.elem, ht]
  have hu : P.underlying t = some (.slice (P.elem t)) := by rw [hel]; exact ht
  have ha : (A.map fun x => x.add 0) = A := by cases A <;> simp [Addr.add]
  rw [run_slice_h W t A n c hu kh j h0 (by omega), hel]
  simp [sizeOf, typeInfo, hi, sliced, Result.andThen, ha]
def mk7 : S32 := ⟨-7, -7⟩
theorem lend_mark (A : Option Addr) (c : Nat) (l : List S32) (w : World) (h1 : Kd.C k32 w A l.length l) (hl : l.length * 16 ≤ 140737488351232) : Calls Tryd.prog 15 #[.slice A l.length c] w fun e w' => ∃ A1 c1, e = .returned (.slice A1 l.length c1) ∧ Kd.R k32 32 w' w.heap.size (fun _ => True) (.slice A1 (l ++ [mk7]).length c1) (l ++ [mk7]) ∧ Below w.heap.size w w' := by
  have HR0 := Aside0.mk h1
  have HL := Aside0.mk hl
  have HB := Aside0.mk (Below.refl w.heap.size w)
  clear h1 hl
  obtain ⟨y117, hy117⟩ : ∃ y_ : List S32, y_ = ([] ++ l) := ⟨_, rfl⟩
  have Ny117 := Aside0.mk hy117
  have N1 : Aside0 (y117 = l) := ⟨by rw [hy117, List.nil_append]⟩
  clear hy117
  obtain ⟨y120, hy120⟩ : ∃ y_ : List S32, y_ = (y117 ++ [(⟨(-7), (-7)⟩ : S32)]) := ⟨_, rfl⟩
  have Ny120 := Aside0.mk hy120
  clear hy120
  have HLY : Aside0 (y120.length = l.length + 1) := ⟨by rw [Ny120.out, N1.out]; simp⟩
  have HL7 : Aside0 (y117.length = l.length) := ⟨by rw [N1.out]⟩
  have c4b0 := eq_true (show (0 : Int) ≤ (l.length : Int) by omega)
  have c4b1 : decide ((0 : Int) ≤ (l.length : Int)) = true := decide_eq_true (by omega)
  have c5b0 := eq_true (show (l.length : Int) ≤ (y120.length : Int) by have := HLY.out; omega)
  have c5b1 : decide ((l.length : Int) ≤ (y120.length : Int)) = true := decide_eq_true (by have := HLY.out; omega)
  go_enter Tryd.func15, Tryd.ntmps15
  go_wp2_with (first | ((with_reducible refine gate_builtin (b := .append) (xs := #[.tmp 4, .tmp 5]) rfl ?_); at_builtin; refine Kd.R_append_rows k32 (w0 := w) w.heap.size rfl (.tmp 4) (.tmp 5) 22 32 (.agg #[(.int .i64 0), (.int .i64 0)]) 16 rfl Tryd.underlying22 info32 rfl (by decide) (by omega) (.slice none 0 0) ([] : List (S32)) l _ _ _ (fun _ => True) (fun _ => False) rfl rfl (Kd.R_nil _ _ _ _ (fun _ => True)) HR0.out (fun _ _ h => h) (fun _ h => h.elim) (fun _ _ => trivial) HB.out (below_size HB.out) (by have := HL.out; rw [List.length_nil]; omega) ?_; intro v118 w6 ho hb hg hat; rw [← Ny117.out] at ho; have B6 := Aside0.mk (hb); have HO119 := Aside0.mk (ho); clear ho hb hg hat) | ((with_reducible refine gate_builtin (b := .append) (xs := #[.tmp 7, .tmp 9]) rfl ?_); at_builtin; refine Kd.R_append k32 (w0 := w) w.heap.size rfl (.tmp 7) (.tmp 9) 22 32 (.agg #[(.int .i64 0), (.int .i64 0)]) 16 rfl Tryd.underlying22 info32 rfl (by decide) (by omega) v118 y117 (⟨(-7), (-7)⟩ : S32) [.int .i64 (-7), .int .i64 (-7)] (fun _ => True) (fun _ => False) rfl rfl ?aP (fun _ hk => hk.elim) ?aF ?aO ?aB ?aS ?aL ?_; (case aP => exact k32_mkM _ _ _ (⟨(-7), (-7)⟩ : S32)); (case aB => exact (by repeat (first | (with_reducible first | exact B6.out | apply below_alloc | apply pw_below_drewN | apply below_drew1) | exact B6.out))); (case aF => exact (fun _ _ => trivial)); (case aO => exact (by (with_reducible repeat (first | apply Kd.R_alloc | apply Kd.R_drewN | apply Kd.R_drew)); exact HO119.out)); (case aS => exact (below_size (by repeat (first | (with_reducible first | exact B6.out | apply below_alloc | apply pw_below_drewN | apply below_drew1) | exact B6.out)))); (case aL => have := HL.out; have := HL7.out; omega); intro v121 w7 ho hb hg hat; rw [← Ny120.out] at ho; have B7 := Aside0.mk (hb); have HO122 := Aside0.mk (ho); clear ho hb hg hat; obtain ⟨Ao8, co8, eo8⟩ := Kd.R_slice HO122.out; subst eo8; obtain ⟨i09, hi09, _, hsz9, _⟩ := info_parts info32; have hcut9 := cut_to (P := Tryd.prog) 22 32 .i64 Tryd.underlying22 hi09 Ao8 y120.length co8 (l.length : Int) (by omega) (by have := HLY.out; omega) (Kd.R_reads' HO122.out).2.1; simp only [Int.toNat_natCast] at hcut9))
  go_ret
  have e : y120 = l ++ [mk7] := by rw [Ny120.out, N1.out]; rfl
  have hO := HO122.out
  rw [e] at hO
  exact ⟨Ao8, co8, rfl, hO, B7.out⟩
theorem rd_mark (l : List S32) : rd_T32 (l ++ [mk7]) (l.length : Int) = mk7 := by unfold rd_T32; simp
theorem kept_mark (A B : Option Addr) (c d : Nat) (l : List S32) (w : World) (h1 : Kd.C k32 w A (l ++ [mk7]).length (l ++ [mk7])) (h2 : (l ++ [mk7]).length ≤ c) (h3 : Kd.C k32 w B l.length l) (h4 : l.length ≤ d) (hl : l.length * 16 ≤ 140737488351232) : Calls Tryd.prog 18 #[.slice A l.length c, .slice B l.length d] w fun e w' => e = .returned (.bool true) ∧ Below w.heap.size w w' := by
  obtain ⟨m, hm⟩ : ∃ m, l.length + 1 = m := ⟨_, rfl⟩
  have hm2 : (l ++ [mk7]).length = m := by rw [← hm]; simp
  rw [hm2] at h2
  have HT : Aside0 (Kd.C k32 w A l.length l) := ⟨by have h := Kd.C_take (m := l.length) h1 (by simp); rw [List.take_left] at h; exact h⟩
  have H1 := Aside0.mk h1
  have H2 := Aside0.mk h2
  have H3 := Aside0.mk h3
  have H4 := Aside0.mk h4
  have HL := Aside0.mk hl
  have HM := Aside0.mk hm
  have HM2 := Aside0.mk hm2
  have hw1 : wrap64 ((l.length : Int) + 1) = (m : Int) := by unfold wrap64; omega
  have d1 : decide ((0 : Int) ≤ (m : Int)) = true := decide_eq_true (by omega)
  have d2 : decide ((l.length : Int) < (m : Int)) = true := decide_eq_true (by omega)
  have d3 : decide (l.length < m) = true := decide_eq_true (by omega)
  have p1 := eq_true (show (0 : Int) ≤ (l.length : Int) by omega)
  have p2 := eq_true (show (l.length : Int) < (m : Int) by omega)
  clear h1 h2 h3 h4 hl hm hm2
  go_enter Tryd.func18, Tryd.ntmps18
  go_wp2_with (go_at_call 24; refine (samep_calls A B c d l (by have := HL.out; omega) _ HT.out (by have := H2.out; have := HM.out; omega) H3.out H4.out).mono ?_; rintro e w1 ⟨rfl, hb⟩; have L1 := Aside0.mk hb; obtain ⟨i09, hi09, _, hsz9, _⟩ := info_parts info32; have hcut9 := cut_cap (P := Tryd.prog) 22 32 .i64 Tryd.underlying22 hi09 A l.length c (m : Int) (by omega) (by have := H2.out; omega); simp only [Int.toNat_natCast] at hcut9; have hC := Kd.C_below H1.out hb; rw [HM2.out] at hC; obtain ⟨ad, rfl, hx0, hx1⟩ := at_T32 hC (l.length : Int) (by omega) (by have := HM.out; omega); rw [rd_mark] at hx0 hx1; unfold mk7 at hx0 hx1; simp only [Go.IntWalk.toNatUp] at hx0 hx1; clear hb hC)
  go_ret
  exact ⟨by rfl, L1.out⟩
end Go.Proofs.YtoffhlbdfhhhjaaDoor.Fr
