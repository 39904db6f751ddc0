/- Written by a program of this session (a changed run of the kit's printer): what the Go functions of one call tree answer, as plain functions, and that the machine's calls answer so; no condition but those in each statement. -/
import Derived.Test.YtoffhlbdfhhhjaaDoorQLx0
import Derived.Test.YtoffhlbdfhhhjaaDoorQLx1
import Derived.Test.YtoffhlbdfhhhjaaDoorQLx3
namespace Go.Proofs.YtoffhlbdfhhhjaaDoor.QL
open Go.RowKit Go.Proofs.YtoffhlbdfhhhjaaDoorW.PrintWords Go.Proofs.YtoffhlbdfhhhjaaDoorW.PrintLast Go.Proofs.YtoffhlbdfhhhjaaDoorW.PrintMore
attribute [local go_sem] max2_int min2_int max_two min_two max_three min_three max_four min_four   -- for this text's walks alone
set_option linter.unusedVariables false
set_option linter.unusedSimpArgs false

attribute [local go_sem high] eqA32
/-! ### heraldlaw06_lend: function 15 -/
def heraldlaw06_lend.f (l0 : List (S32)) : Option ((List (S32))) := if ([] : List (S32)).length + l0.length < 8796093022208 then ((some (([] : List (S32)) ++ l0 : List (S32))).bind fun y117 => (if y117.length < 8796093022208 then ((some (y117 ++ [(⟨(-7), (-7)⟩ : S32)] : List (S32))).bind fun y120 => (if 0 ≤ (l0.length : Int) then (if (l0.length : Int) ≤ (y120.length : Int) then (some (y120.take ((l0.length : Int) : Int).toNat)) else (none)) else (none))) else (none))) else (none)
set_option maxHeartbeats 8000000 in
set_option maxRecDepth 100000 in
theorem heraldlaw06_lend.calls (A0 : Option Addr) (c0 : Nat) (l0 : List (S32)) (r : List (S32)) (w : World) (hr0 : Kd.C k32 w A0 l0.length l0) (hc0 : l0.length ≤ c0) (h : heraldlaw06_lend.f l0 = some r) :
    Calls Tryd.prog 15 #[.slice A0 l0.length c0] w fun e w' => ∃ v0_ : Value, e = .returned (v0_) ∧ Kd.R k32 32 w' w.heap.size (fun _ => True) v0_ r ∧ Below w.heap.size w w' := by
  have hu32 := Tryd.underlying32
  have HR0 := Aside0.mk hr0
  have HC0 := Aside0.mk hc0
  clear hr0 hc0
  have HB := Aside0.mk (Below.refl w.heap.size w)
  have H : (if ([] : List (S32)).length + l0.length < 8796093022208 then ((some (([] : List (S32)) ++ l0 : List (S32))).bind fun y117 => (if y117.length < 8796093022208 then ((some (y117 ++ [(⟨(-7), (-7)⟩ : S32)] : List (S32))).bind fun y120 => (if 0 ≤ (l0.length : Int) then (if (l0.length : Int) ≤ (y120.length : Int) then (some (y120.take ((l0.length : Int) : Int).toNat)) else (none)) else (none))) else (none))) else (none)) = some r := h
  clear h
  by_cases c2 : ([] : List (S32)).length + l0.length < 8796093022208
  · rw [if_pos c2] at H
    have LMc2 := Aside0.mk c2
    clear c2
    obtain ⟨y117, hy117⟩ : ∃ y_ : List (S32), y_ = (([] : List (S32)) ++ l0) := ⟨_, rfl⟩
    replace H : (if y117.length < 8796093022208 then ((some (y117 ++ [(⟨(-7), (-7)⟩ : S32)] : List (S32))).bind fun y120 => (if 0 ≤ (l0.length : Int) then (if (l0.length : Int) ≤ (y120.length : Int) then (some (y120.take ((l0.length : Int) : Int).toNat)) else (none)) else (none))) else (none)) = some r := by first | (rw [hy117]; with_reducible exact H) | (have H2_ := (Option.bind_some _ _).symm.trans H; rw [hy117]; with_reducible exact H2_) | (have H2_ := (Option.bind_some _ _).symm.trans H; with_reducible exact H2_) | with_reducible exact H | (rw [hy117]; exact H) | exact H
    have Ny117 := Aside0.mk hy117
    clear hy117
    by_cases c3 : y117.length < 8796093022208
    · rw [if_pos c3] at H
      have LMc3 := Aside0.mk c3
      clear c3
      obtain ⟨y120, hy120⟩ : ∃ y_ : List (S32), y_ = (y117 ++ [(⟨(-7), (-7)⟩ : S32)]) := ⟨_, rfl⟩
      replace H : (if 0 ≤ (l0.length : Int) then (if (l0.length : Int) ≤ (y120.length : Int) then (some (y120.take ((l0.length : Int) : Int).toNat)) else (none)) else (none)) = some r := by first | (rw [hy120]; with_reducible exact H) | (have H2_ := (Option.bind_some _ _).symm.trans H; rw [hy120]; with_reducible exact H2_) | (have H2_ := (Option.bind_some _ _).symm.trans H; with_reducible exact H2_) | with_reducible exact H | (rw [hy120]; exact H) | exact H
      have Ny120 := Aside0.mk hy120
      clear hy120
      by_cases c4 : 0 ≤ (l0.length : Int)
      · rw [if_pos c4] at H
        have c4b0 := eq_true c4
        have c4b1 : decide (0 ≤ (l0.length : Int)) = true := decide_eq_true c4
        clear c4
        by_cases c5 : (l0.length : Int) ≤ (y120.length : Int)
        · rw [if_pos c5] at H
          have c5b0 := eq_true c5
          have c5b1 : decide ((l0.length : Int) ≤ (y120.length : Int)) = true := decide_eq_true c5
          clear c5
          obtain ⟨y123, hy123⟩ : ∃ y_ : List (S32), y_ = (y120.take ((l0.length : Int) : Int).toNat) := ⟨_, rfl⟩
          replace H : (some y123) = some r := by first | (rw [hy123]; with_reducible exact H) | (have H2_ := (Option.bind_some _ _).symm.trans H; rw [hy123]; with_reducible exact H2_) | (have H2_ := (Option.bind_some _ _).symm.trans H; with_reducible exact H2_) | with_reducible exact H | (rw [hy123]; exact H) | exact H
          have Ny123 := Aside0.mk hy123
          clear hy123
          obtain rfl := Option.some.inj H
          go_enter Tryd.func15, Tryd.ntmps15
          go_wp2_with (first | ((with_reducible refine gate_builtin (b := .append) (xs := #[.tmp 4, .tmp 5]) rfl ?_); at_builtin; refine Kd.R_append_rows k32 (w0 := w) w.heap.size rfl (.tmp 4) (.tmp 5) 22 32 (.agg #[(.int .i64 0), (.int .i64 0)]) 16 rfl Tryd.underlying22 info32 rfl (by decide) (by omega) (.slice none 0 0) ([] : List (S32)) l0 _ _ _ (fun _ => True) (fun _ => False) rfl rfl ?aO ?aR (fun _ _ h => h) (fun _ h => h.elim) ?aF ?aB ?aS ?aL ?_; (case aR => repeat (first | exact HR0.out | (with_reducible refine Kd.C_alloc ?_ _) | (with_reducible refine Kd.C_drewN ?_ _) | (with_reducible refine Kd.C_drew ?_))); (case aB => exact (by repeat (first | (with_reducible first | exact HB.out | apply below_alloc | apply pw_below_drewN | apply below_drew1) | exact HB.out))); (case aF => exact (fun _ _ => trivial)); (case aO => exact ((Kd.R_nil _ _ _ _ (fun _ => True)))); (case aS => exact (below_size (by repeat (first | (with_reducible first | exact HB.out | apply below_alloc | apply pw_below_drewN | apply below_drew1) | exact HB.out)))); (case aL => have := LMc2.out; omega); intro v118 w6 ho hb hg hat; rw [← Ny117.out] at ho; have n0_ := Aside0.mk (hb); have n1_ := Aside0.mk (ho); clear HB; have HB := n0_; have HO119 := n1_; clear n0_ n1_; clear ho hb hg hat) | ((with_reducible refine gate_builtin (b := .append) (xs := #[.tmp 7, .tmp 9]) rfl ?_); at_builtin; refine Kd.R_append k32 (w0 := w) w.heap.size rfl (.tmp 7) (.tmp 9) 22 32 (.agg #[(.int .i64 0), (.int .i64 0)]) 16 rfl Tryd.underlying22 info32 rfl (by decide) (by omega) v118 y117 (⟨(-7), (-7)⟩ : S32) [.int .i64 (-7), .int .i64 (-7)] (fun _ => True) (fun _ => False) rfl rfl ?aP (fun _ hk => hk.elim) ?aF ?aO ?aB ?aS ?aL ?_; (case aP => exact k32_mkM _ _ _ (⟨(-7), (-7)⟩ : S32)); (case aB => exact (by repeat (first | (with_reducible first | exact HB.out | apply below_alloc | apply pw_below_drewN | apply below_drew1) | exact HB.out))); (case aF => exact (fun _ _ => trivial)); (case aO => exact (by (with_reducible repeat (first | apply Kd.R_alloc | apply Kd.R_drewN | apply Kd.R_drew)); exact HO119.out)); (case aS => exact (below_size (by repeat (first | (with_reducible first | exact HB.out | apply below_alloc | apply pw_below_drewN | apply below_drew1) | exact HB.out)))); (case aL => have := LMc3.out; omega); intro v121 w7 ho hb hg hat; rw [← Ny120.out] at ho; have n0_ := Aside0.mk (hb); have n1_ := Aside0.mk (ho); clear HB; clear HO119; have HB := n0_; have HO122 := n1_; clear n0_ n1_; clear ho hb hg hat; obtain ⟨Ao8, co8, eo8⟩ := Kd.R_slice HO122.out; subst eo8; have q9 : ((l0.length : Int) : Int) ≤ ((y120.length : Int) : Int) := of_decide_eq_true (by first | (with_reducible assumption) | assumption); obtain ⟨i09, hi09, _, hsz9, _⟩ := info_parts info32; have hcut9 := cut_to (P := Tryd.prog) 22 32 .i64 Tryd.underlying22 hi09 Ao8 y120.length co8 (l0.length : Int) (of_decide_eq_true (by first | (with_reducible assumption) | assumption)) q9 (Kd.R_reads' HO122.out).2.1; have hr9 := Kd.R_take (m := ((l0.length : Int) : Int).toNat) HO122.out (by omega); have hy9 : y123.length = ((l0.length : Int) : Int).toNat := (by rw [Ny123.out, List.length_take]; omega); rw [← Ny123.out] at hr9; rw [← hy9] at hr9 hcut9; clear hy9 hi09 hsz9 HO122; have HO125 := Aside0.mk hr9; clear hr9; replace q9 := eq_true q9))
          go_ret
          exact ⟨_, by first | rfl | (simp [errW_none, errW_some] <;> rfl) | (simp [*, errW_none, errW_some] <;> rfl), by (with_reducible repeat (first | apply Kd.R_alloc | apply Kd.R_drewN | apply Kd.R_drew)); exact HO125.out, by repeat (first | (with_reducible first | exact HB.out | apply below_alloc | apply pw_below_drewN | apply below_drew1) | exact HB.out)⟩
        · rw [if_neg c5] at H
          exact absurd H (by simp)
      · rw [if_neg c4] at H
        exact absurd H (by simp)
    · rw [if_neg c3] at H
      exact absurd H (by simp)
  · rw [if_neg c2] at H
    exact absurd H (by simp)

/-! ### heraldlaw06_kept: function 18 -/
def heraldlaw06_kept.f (k : Nat) (l0 : List (S32)) (l1 : List (S32)) : Option (Bool) := (heraldlaw06_sameParams.f k l0 l1).bind fun t126 => (if t126 = true then (if 0 ≤ (wrap64 ((l1.length : Int) + 1)) then (if (wrap64 ((l1.length : Int) + 1)) ≤ (l0.length : Int) then ((some (l0.take ((wrap64 ((l1.length : Int) + 1)) : Int).toNat : List (S32))).bind fun y127 => (if 0 ≤ (l1.length : Int) then (if (l1.length : Int) < (y127.length : Int) then (some (((rd_T32 y127 (l1.length : Int)).f0) == (-7) && (((rd_T32 y127 (l1.length : Int)).f1) == (-7)))) else (none)) else (none))) else (none)) else (none)) else (some false))
theorem heraldlaw06_kept.mono : ∀ a0 a1 k, LeO (heraldlaw06_kept.f k a0 a1) (heraldlaw06_kept.f (k + 1) a0 a1) := by
  intro a0 a1 k
  unfold heraldlaw06_kept.f
  repeat' first
      | (with_reducible exact heraldlaw06_sameParams.mono _ _ _)
      | (with_reducible exact LeO.refl _)
      | (with_reducible exact LeO.none _)
      | (with_reducible refine LeO.ite ?_ ?_)
      | (with_reducible refine LeO.bind ?_ (fun _ => ?_))
      | exact heraldlaw06_sameParams.mono _ _ _
      | exact LeO.none _
      | refine LeO.ite ?_ ?_
      | refine LeO.bind ?_ (fun _ => ?_)
set_option maxHeartbeats 8000000 in
set_option maxRecDepth 100000 in
theorem heraldlaw06_kept.calls (k : Nat) (A0 : Option Addr) (c0 : Nat) (l0 : List (S32)) (A1 : Option Addr) (c1 : Nat) (l1 : List (S32)) (r : Bool) (w : World) (hr0 : Kd.C k32 w A0 l0.length l0) (hc0 : l0.length ≤ c0) (hr1 : Kd.C k32 w A1 l1.length l1) (hc1 : l1.length ≤ c1) (h : heraldlaw06_kept.f k l0 l1 = some r) :
    Calls Tryd.prog 18 #[.slice A0 l0.length c0, .slice A1 l1.length c1] w fun e w' => e = .returned (.bool r) ∧ Drawn0 w w' := by
  have hu32 := Tryd.underlying32
  have HR0 := Aside0.mk hr0
  have HC0 := Aside0.mk hc0
  clear hr0 hc0
  have HR1 := Aside0.mk hr1
  have HC1 := Aside0.mk hc1
  clear hr1 hc1
  have H : ((heraldlaw06_sameParams.f k l0 l1).bind fun t126 => (if t126 = true then (if 0 ≤ (wrap64 ((l1.length : Int) + 1)) then (if (wrap64 ((l1.length : Int) + 1)) ≤ (l0.length : Int) then ((some (l0.take ((wrap64 ((l1.length : Int) + 1)) : Int).toNat : List (S32))).bind fun y127 => (if 0 ≤ (l1.length : Int) then (if (l1.length : Int) < (y127.length : Int) then (some (((rd_T32 y127 (l1.length : Int)).f0) == (-7) && (((rd_T32 y127 (l1.length : Int)).f1) == (-7)))) else (none)) else (none))) else (none)) else (none)) else (some false))) = some r := h
  clear h
  replace H := Option.bind_eq_some_iff.mp H
  obtain ⟨t126, A30, H⟩ := H
  replace H : (if t126 = true then (if 0 ≤ (wrap64 ((l1.length : Int) + 1)) then (if (wrap64 ((l1.length : Int) + 1)) ≤ (l0.length : Int) then ((some (l0.take ((wrap64 ((l1.length : Int) + 1)) : Int).toNat : List (S32))).bind fun y127 => (if 0 ≤ (l1.length : Int) then (if (l1.length : Int) < (y127.length : Int) then (some (((rd_T32 y127 (l1.length : Int)).f0) == (-7) && (((rd_T32 y127 (l1.length : Int)).f1) == (-7)))) else (none)) else (none))) else (none)) else (none)) else (some false)) = some r := H
  have A3 := Aside0.mk A30
  clear A30
  by_cases c4 : t126 = true
  · subst c4
    have H1 : (if 0 ≤ (wrap64 ((l1.length : Int) + 1)) then (if (wrap64 ((l1.length : Int) + 1)) ≤ (l0.length : Int) then ((some (l0.take ((wrap64 ((l1.length : Int) + 1)) : Int).toNat : List (S32))).bind fun y127 => (if 0 ≤ (l1.length : Int) then (if (l1.length : Int) < (y127.length : Int) then (some (((rd_T32 y127 (l1.length : Int)).f0) == (-7) && (((rd_T32 y127 (l1.length : Int)).f1) == (-7)))) else (none)) else (none))) else (none)) else (none)) = some r := by rw [if_pos rfl] at H; exact H
    clear H
    have H := H1
    clear H1
    obtain ⟨ji5, hji5⟩ : ∃ j_ : Int, (wrap64 ((l1.length : Int) + 1)) = j_ := ⟨_, rfl⟩
    replace H : (if 0 ≤ (ji5) then (if (ji5) ≤ (l0.length : Int) then ((some (l0.take ((ji5) : Int).toNat : List (S32))).bind fun y127 => (if 0 ≤ (l1.length : Int) then (if (l1.length : Int) < (y127.length : Int) then (some (((rd_T32 y127 (l1.length : Int)).f0) == (-7) && (((rd_T32 y127 (l1.length : Int)).f1) == (-7)))) else (none)) else (none))) else (none)) else (none)) = some r := by first | (rw [hji5] at H; exact H) | (simp only [hji5] at H ⊢; exact H)
    (try rw [hji5] at A3)
    have hji5w : (IntKind.i64.wrap ((l1.length : Int) + 1)) = ji5 := (i64_w _).trans hji5
    by_cases c6 : 0 ≤ (ji5)
    · rw [if_pos c6] at H
      have c6b0 := eq_true c6
      have c6b1 : decide (0 ≤ (ji5)) = true := decide_eq_true c6
      clear c6
      by_cases c7 : (ji5) ≤ (l0.length : Int)
      · rw [if_pos c7] at H
        have c7b0 := eq_true c7
        have c7b1 : decide ((ji5) ≤ (l0.length : Int)) = true := decide_eq_true c7
        clear c7
        obtain ⟨y127, hy127⟩ : ∃ y_ : List (S32), y_ = (l0.take ((ji5) : Int).toNat) := ⟨_, rfl⟩
        replace H : (if 0 ≤ (l1.length : Int) then (if (l1.length : Int) < (y127.length : Int) then (some (((rd_T32 y127 (l1.length : Int)).f0) == (-7) && (((rd_T32 y127 (l1.length : Int)).f1) == (-7)))) else (none)) else (none)) = some r := by first | (rw [hy127]; with_reducible exact H) | (have H2_ := (Option.bind_some _ _).symm.trans H; rw [hy127]; with_reducible exact H2_) | (have H2_ := (Option.bind_some _ _).symm.trans H; with_reducible exact H2_) | with_reducible exact H | (rw [hy127]; exact H) | exact H
        have Ny127 := Aside0.mk hy127
        clear hy127
        by_cases c8 : 0 ≤ (l1.length : Int)
        · rw [if_pos c8] at H
          have c8b0 : decide (0 ≤ (l1.length : Int)) = true := decide_eq_true c8
          have c8b1 : decide (0 ≤ l1.length) = true := decide_eq_true (by omega)
          clear c8
          by_cases c9 : (l1.length : Int) < (y127.length : Int)
          · rw [if_pos c9] at H
            have c9b0 : decide ((l1.length : Int) < (y127.length : Int)) = true := decide_eq_true c9
            have c9b1 : decide (l1.length < y127.length) = true := decide_eq_true (Int.ofNat_lt.mp c9)
            clear c9
            obtain rfl := Option.some.inj H
            go_enter Tryd.func18, Tryd.ntmps18
            go_wp2_with (first | ((with_reducible refine gate_callee (f := 24) rfl ?_); refine goesL_ (some 7) rfl rfl Tryd.func24 (by kernel_rfl) rfl #[.slice A0 l0.length c0, .slice A1 l1.length c1] rfl (by (try simp only [List.map_toArray, List.map_cons, List.map_nil]); first | done | rfl | (simp only [List.length_drop, List.length_take]; rfl)) ?_; (with_reducible refine (heraldlaw06_sameParams.calls k _ _ l0 _ _ l1 true _ ?side1 ?side2 ?side3 ?side4 A3.out).mono ?_); (case side1 => repeat (first | exact HR0.out | (with_reducible refine Kd.C_alloc ?_ _) | (with_reducible refine Kd.C_drewN ?_ _) | (with_reducible refine Kd.C_drew ?_))); (case side2 => exact HC0.out); (case side3 => repeat (first | exact HR1.out | (with_reducible refine Kd.C_alloc ?_ _) | (with_reducible refine Kd.C_drewN ?_ _) | (with_reducible refine Kd.C_drew ?_))); (case side4 => exact HC1.out); rintro e w' ⟨rfl, ⟨nd, rfl⟩⟩; refine ⟨_, rfl, ?_⟩; have q10 : ((ji5) : Int) ≤ ((l0.length : Int) : Int) := of_decide_eq_true (by first | (with_reducible assumption) | assumption); obtain ⟨i010, hi010, _, hsz10, _⟩ := info_parts info32; have hroom10 : l0.length ≤ c0 := HC0.out; have hC10 : Kd.C k32 _ A0 l0.length l0 := HR0.out; have hcut10 := cut_to (P := Tryd.prog) 22 32 .i64 Tryd.underlying22 hi010 A0 l0.length c0 (ji5) (of_decide_eq_true (by first | (with_reducible assumption) | assumption)) q10 hroom10; have hr10 := Kd.C_take (m := ((ji5) : Int).toNat) hC10 (by omega); have hy10 : y127.length = ((ji5) : Int).toNat := (by rw [Ny127.out, List.length_take]; omega); rw [← Ny127.out] at hr10; rw [← hy10] at hcut10; have HR130 := Aside0.mk hr10; have HC130 := Aside0.mk (show y127.length ≤ c0 from by omega); clear hr10 hC10 hroom10 hi010 hsz10; have KY10 := Aside0.mk hy10; clear hy10; replace q10 := eq_true q10; have p131 : 0 ≤ ((l1.length : Int) : Int) := of_decide_eq_true (by first | (with_reducible assumption) | assumption); have q131 : (l1.length : Int) < (y127.length : Int) := of_decide_eq_true (by first | (with_reducible assumption) | assumption); obtain ⟨ad131, e131, hx131_0, hx131_1⟩ := at_T32 HR130.out (l1.length : Int) p131 q131; cases e131; (try simp only [Go.IntWalk.toNatUp] at hx131_0); (try simp only [Go.IntWalk.toNatUp] at hx131_1); replace p131 := eq_true p131; replace q131 := eq_true q131))
            go_ret
            exact ⟨by first | rfl | (simp; done) | (simp only [← hji5] <;> (first | rfl | simp)) | (simp [*]; done), by repeat (first | exact Drawn0.refl _ | apply Drawn0.step)⟩
          · rw [if_neg c9] at H
            exact absurd H (by simp)
        · rw [if_neg c8] at H
          exact absurd H (by simp)
      · rw [if_neg c7] at H
        exact absurd H (by simp)
    · rw [if_neg c6] at H
      exact absurd H (by simp)
  · replace c4 := Bool.eq_false_iff.mpr c4
    subst c4
    have H1 : (some false) = some r := by rw [if_neg (show ¬ (false = true) by decide)] at H; exact H
    clear H
    have H := H1
    clear H1
    obtain rfl := Option.some.inj H
    go_enter Tryd.func18, Tryd.ntmps18
    go_wp2_with (first | ((with_reducible refine gate_callee (f := 24) rfl ?_); refine goesL_ (some 7) rfl rfl Tryd.func24 (by kernel_rfl) rfl #[.slice A0 l0.length c0, .slice A1 l1.length c1] rfl (by (try simp only [List.map_toArray, List.map_cons, List.map_nil]); first | done | rfl | (simp only [List.length_drop, List.length_take]; rfl)) ?_; (with_reducible refine (heraldlaw06_sameParams.calls k _ _ l0 _ _ l1 false _ ?side1 ?side2 ?side3 ?side4 A3.out).mono ?_); (case side1 => repeat (first | exact HR0.out | (with_reducible refine Kd.C_alloc ?_ _) | (with_reducible refine Kd.C_drewN ?_ _) | (with_reducible refine Kd.C_drew ?_))); (case side2 => exact HC0.out); (case side3 => repeat (first | exact HR1.out | (with_reducible refine Kd.C_alloc ?_ _) | (with_reducible refine Kd.C_drewN ?_ _) | (with_reducible refine Kd.C_drew ?_))); (case side4 => exact HC1.out); rintro e w' ⟨rfl, ⟨nd, rfl⟩⟩; refine ⟨_, rfl, ?_⟩))
    go_ret
    exact ⟨by first | rfl | (simp; done) | (simp [*]; done), by repeat (first | exact Drawn0.refl _ | apply Drawn0.step)⟩

end Go.Proofs.YtoffhlbdfhhhjaaDoor.QL
