/- The document's small functions of frames. No condition. -/
import Derived.Test.YtoffhlbdfhhhjaaDoorMFg8
namespace Go.Proofs.YtoffhlbdfhhhjaaDoor.Fr
open Go Go.RowKit Go.Proofs.YtoffhlbdfhhhjaaDoorW.PrintWords Go.Proofs.YtoffhlbdfhhhjaaDoorW.PrintLast Go.Proofs.YtoffhlbdfhhhjaaDoorW.PrintMore Go.Proofs.YtoffhlbdfhhhjaaDoor.QL
set_option linter.unusedSimpArgs false
set_option linter.unusedVariables false
set_option maxHeartbeats 40000000
set_option maxRecDepth 100000
/-- The type of the frame made. -/
def mTy (ex : Bool) (x : Int) : Int := if ex = true then Int.tmod (Go.bits .and .i64 x 255) 10 else Go.bits .and .i64 x 255
theorem flagI0 (w : World) : (Instr.index 106 (.agg #[.int .i64 9, .int .i64 45, .int .i64 0, .int .i64 0, .int .i64 1, .int .i64 12, .int .i64 1, .int .i64 0, .int .i64 0, .int .i64 4]) (.int .i64 0)).run Tryd.prog w = .ok (.int .i64 9) w := by kernel_rfl
theorem flagI1 (w : World) : (Instr.index 106 (.agg #[.int .i64 9, .int .i64 45, .int .i64 0, .int .i64 0, .int .i64 1, .int .i64 12, .int .i64 1, .int .i64 0, .int .i64 0, .int .i64 4]) (.int .i64 1)).run Tryd.prog w = .ok (.int .i64 45) w := by kernel_rfl
theorem flagI2 (w : World) : (Instr.index 106 (.agg #[.int .i64 9, .int .i64 45, .int .i64 0, .int .i64 0, .int .i64 1, .int .i64 12, .int .i64 1, .int .i64 0, .int .i64 0, .int .i64 4]) (.int .i64 2)).run Tryd.prog w = .ok (.int .i64 0) w := by kernel_rfl
theorem flagI3 (w : World) : (Instr.index 106 (.agg #[.int .i64 9, .int .i64 45, .int .i64 0, .int .i64 0, .int .i64 1, .int .i64 12, .int .i64 1, .int .i64 0, .int .i64 0, .int .i64 4]) (.int .i64 3)).run Tryd.prog w = .ok (.int .i64 0) w := by kernel_rfl
theorem flagI4 (w : World) : (Instr.index 106 (.agg #[.int .i64 9, .int .i64 45, .int .i64 0, .int .i64 0, .int .i64 1, .int .i64 12, .int .i64 1, .int .i64 0, .int .i64 0, .int .i64 4]) (.int .i64 4)).run Tryd.prog w = .ok (.int .i64 1) w := by kernel_rfl
theorem flagI5 (w : World) : (Instr.index 106 (.agg #[.int .i64 9, .int .i64 45, .int .i64 0, .int .i64 0, .int .i64 1, .int .i64 12, .int .i64 1, .int .i64 0, .int .i64 0, .int .i64 4]) (.int .i64 5)).run Tryd.prog w = .ok (.int .i64 12) w := by kernel_rfl
theorem flagI6 (w : World) : (Instr.index 106 (.agg #[.int .i64 9, .int .i64 45, .int .i64 0, .int .i64 0, .int .i64 1, .int .i64 12, .int .i64 1, .int .i64 0, .int .i64 0, .int .i64 4]) (.int .i64 6)).run Tryd.prog w = .ok (.int .i64 1) w := by kernel_rfl
theorem flagI7 (w : World) : (Instr.index 106 (.agg #[.int .i64 9, .int .i64 45, .int .i64 0, .int .i64 0, .int .i64 1, .int .i64 12, .int .i64 1, .int .i64 0, .int .i64 0, .int .i64 4]) (.int .i64 7)).run Tryd.prog w = .ok (.int .i64 0) w := by kernel_rfl
theorem flagI8 (w : World) : (Instr.index 106 (.agg #[.int .i64 9, .int .i64 45, .int .i64 0, .int .i64 0, .int .i64 1, .int .i64 12, .int .i64 1, .int .i64 0, .int .i64 0, .int .i64 4]) (.int .i64 8)).run Tryd.prog w = .ok (.int .i64 0) w := by kernel_rfl
theorem flagI9 (w : World) : (Instr.index 106 (.agg #[.int .i64 9, .int .i64 45, .int .i64 0, .int .i64 0, .int .i64 1, .int .i64 12, .int .i64 1, .int .i64 0, .int .i64 0, .int .i64 4]) (.int .i64 9)).run Tryd.prog w = .ok (.int .i64 4) w := by kernel_rfl
end Go.Proofs.YtoffhlbdfhhhjaaDoor.Fr
namespace Go.Proofs.YtoffhlbdfhhhjaaDoor.Fr
open Go Go.RowKit Go.Proofs.YtoffhlbdfhhhjaaDoorW.PrintWords Go.Proofs.YtoffhlbdfhhhjaaDoorW.PrintLast Go.Proofs.YtoffhlbdfhhhjaaDoorW.PrintMore Go.Proofs.YtoffhlbdfhhhjaaDoor.QL
set_option linter.unusedSimpArgs false
set_option linter.unusedVariables false
set_option maxHeartbeats 4000000
set_option maxRecDepth 100000
theorem drawn_below {w w' : World} (h : Drawn0 w w') : Below w.heap.size w w' := by
  obtain ⟨n, rfl⟩ := h.out
  exact pw_below_drewN (Below.refl _ _) n
theorem has_f (fl : Int) (h0 : 0 ≤ fl) (h1 : fl ≤ 255) : heraldref06_has.f fl 1 = some (has fl 1) ∧ heraldref06_has.f fl 8 = some (has fl 8) ∧ heraldref06_has.f fl 32 = some (has fl 32) := by
  have h : ∀ n : Fin 256, heraldref06_has.f (n.val : Int) 1 = some (has (n.val : Int) 1) ∧ heraldref06_has.f (n.val : Int) 8 = some (has (n.val : Int) 8) ∧ heraldref06_has.f (n.val : Int) 32 = some (has (n.val : Int) 32) := by decide +kernel
  obtain ⟨n, rfl⟩ : ∃ n : Nat, fl = n := ⟨fl.toNat, by omega⟩
  exact h ⟨n, by omega⟩
/-- A frame's head is a head that Read makes. -/
structure Hd (f : Fr) : Prop where
  ty : 0 ≤ f.ty ∧ f.ty ≤ 255
  fl : 0 ≤ f.fl ∧ f.fl ≤ 255
  mask : Go.bits .and .i64 f.fl (kFl f.ty) = f.fl
theorem Hd.no8 {f : Fr} (h : Hd f) (h0 : f.ty ≠ 0) (h1 : f.ty ≠ 1) (h5 : f.ty ≠ 5) (h10 : f.ty < 10) : has f.fl 8 = false := by
  cases hb : has f.fl 8
  · rfl
  · exfalso
    have h8 := kFl8 f.ty f.fl h.ty.1 h.fl.1 h.fl.2 (by rw [h.mask]; exact hb)
    have hc : f.ty = 2 ∨ f.ty = 3 ∨ f.ty = 4 ∨ f.ty = 6 ∨ f.ty = 7 ∨ f.ty = 8 ∨ f.ty = 9 := by have := h.ty; omega
    rcases hc with e | e | e | e | e | e | e <;> rw [e] at h8 <;> exact absurd h8 (by decide)
theorem Hd.pad0 {f : Fr} (h : Hd f) (h0 : f.ty ≠ 0) (h1 : f.ty ≠ 1) (h5 : f.ty ≠ 5) : padB f = false := by
  unfold padB
  by_cases h10 : f.ty < 10
  · rw [h.no8 h0 h1 h5 h10, Bool.and_false]
  · rw [decide_eq_false h10]
    rfl
theorem pad_has {f : Fr} (h : f.ty = 0 ∨ f.ty = 1 ∨ f.ty = 5) : padB f = has f.fl 8 := by
  unfold padB
  rw [decide_eq_true (show f.ty < 10 by omega)]
  rfl
theorem mayPad_f (f : Fr) (h : Hd f) : heraldref06_mayPad.f f.ty f.fl = some (padB f) := by
  have hh := has_f f.fl h.fl.1 h.fl.2
  unfold heraldref06_mayPad.f
  by_cases h0 : f.ty = 0
  · rw [if_pos h0, hh.2.1, pad_has (.inl h0)]
    rfl
  · rw [if_neg h0]
    by_cases h1 : f.ty = 1
    · rw [if_pos h1, hh.2.1, pad_has (.inr (.inl h1))]
      rfl
    · rw [if_neg h1]
      by_cases h5 : f.ty = 5
      · rw [if_pos h5, hh.2.1, pad_has (.inr (.inr h5))]
        rfl
      · rw [if_neg h5, h.pad0 h0 h1 h5]
theorem mayPad_calls (f : Fr) (x : Bool) (w : World) (h : Hd f) (hx : padB f = x) : Calls Tryd.prog 95 #[.int .i64 f.ty, .int .i64 f.fl] w fun e w' => e = .returned (.bool x) ∧ Below w.heap.size w w' :=
  (heraldref06_mayPad.calls f.ty f.fl x w (by rw [mayPad_f f h, hx])).mono fun _ _ r => ⟨r.1, drawn_below r.2⟩
theorem streamR_f (t st : Int) (h0 : 0 ≤ t) : heraldref06_streamRight.f 1 t st = some (stB t st) := by
  by_cases h10 : t < 10
  · obtain rfl | rfl | rfl | rfl | rfl | rfl | rfl | rfl | rfl | rfl : t = 0 ∨ t = 1 ∨ t = 2 ∨ t = 3 ∨ t = 4 ∨ t = 5 ∨ t = 6 ∨ t = 7 ∨ t = 8 ∨ t = 9 := by omega
    all_goals rfl
  · unfold heraldref06_streamRight.f heraldref06_streamRight.j0 stB kSt
    dsimp only
    rw [if_neg (by omega), if_neg (by omega), if_neg h10]
    have e7 : ¬ (t == 7) = true := by simp; omega
    rw [if_neg e7, if_neg (by omega), if_neg (by omega), if_neg (by omega), if_neg (by omega), if_neg (by omega), if_neg (by omega)]
    rfl
theorem streamR_calls (t st : Int) (x : Bool) (w : World) (h0 : 0 ≤ t) (hx : stB t st = x) : Calls Tryd.prog 64 #[.int .i64 t, .int .i64 st] w fun e w' => e = .returned (.bool x) ∧ Below w.heap.size w w' :=
  (heraldref06_streamRight.calls 1 t st x w (by rw [streamR_f t st h0, hx])).mono fun _ _ r => ⟨r.1, drawn_below r.2⟩
end Go.Proofs.YtoffhlbdfhhhjaaDoor.Fr
namespace Go.Proofs.YtoffhlbdfhhhjaaDoor.Fr
open Go Go.RowKit Go.Proofs.YtoffhlbdfhhhjaaDoorW.PrintWords Go.Proofs.YtoffhlbdfhhhjaaDoorW.PrintLast Go.Proofs.YtoffhlbdfhhhjaaDoorW.PrintMore Go.Proofs.YtoffhlbdfhhhjaaDoor.QL
set_option linter.unusedSimpArgs false
set_option linter.unusedVariables false
set_option maxHeartbeats 40000000
set_option maxRecDepth 100000
theorem weighed_calls (f : Fr) (A : Option Addr) (c : Nat) (x : Bool) (w : World) (h0 : 0 ≤ f.fl ∧ f.fl ≤ 255) (hx : (f.ty == 2 || (f.ty == 1 && has f.fl 32)) = x) : Calls Tryd.prog 96 #[.agg (f.cells A c)] w fun e w' => e = .returned (.bool x) ∧ Below w.heap.size w w' := by
  have HB := Aside0.mk (Below.refl w.heap.size w)
  have HF := Aside0.mk (has_f f.fl h0.1 h0.2).2.2
  obtain ⟨y, hy⟩ : ∃ y, has f.fl 32 = y := ⟨_, rfl⟩
  have HY := Aside0.mk hy
  rw [hy] at hx
  clear h0 hy
  unfold Fr.cells
  go_enter Tryd.func96, Tryd.ntmps96
  go_upto_region 1 with fail
  obtain ⟨W1, hW⟩ : ∃ W, w.alloc (.cells #[.int .i64 f.ty, .int .i64 f.fl, .int .i64 f.st, .string f.da, .int .i64 f.pad, .int .i64 f.dep, .bool f.ex, .int .i64 f.wt, .int .i64 f.co, .int .i64 f.la, .slice A f.ps.length c] 24) = W := ⟨_, rfl⟩
  obtain ⟨g1, hg⟩ : ∃ g, w.heap.size = g := ⟨_, rfl⟩
  have X1 : Aside0 (At W1 g1 f A c) := ⟨by rw [← hW, ← hg]; exact blk_new w _⟩
  have L1 : Aside0 (Below w.heap.size w W1) := ⟨by rw [← hW]; exact below_alloc HB.out _⟩
  rw [hW, hg]
  clear hW hg
  have z0 := X1.out.c0
  have z1 := X1.out.c1
  by_cases h2 : f.ty = 2
  · have b2 : (f.ty == 2) = true := beq_iff_eq.mpr h2
    rw [b2] at hx
    subst hx
    go_wp2_with fail
    go_ret
    exact ⟨rfl, L1.out⟩
  · have b2 : (f.ty == 2) = false := beq_eq_false_iff_ne.mpr h2
    rw [b2] at hx
    by_cases h1 : f.ty = 1
    · have b1 : (f.ty == 1) = true := beq_iff_eq.mpr h1
      rw [b1] at hx
      clear h1 h2
      simp only [Bool.false_or, Bool.true_and] at hx
      subst hx
      go_wp2_with (go_at_call 101; refine (heraldref06_has.calls f.fl 32 y _ (by rw [HF.out, HY.out])).mono ?_; rintro e w3 ⟨rfl, hb⟩; have L3 := Aside0.mk (below_then L1.out L1.out.size (drawn_below hb)); clear hb)
      go_ret
      exact ⟨rfl, L3.out⟩
    · have b1 : (f.ty == 1) = false := beq_eq_false_iff_ne.mpr h1
      rw [b1] at hx
      simp only [Bool.false_or, Bool.false_and] at hx
      subst hx
      clear h1 h2
      go_wp2_with fail
      go_ret
      exact ⟨rfl, L1.out⟩
theorem flagsR_calls (t x : Int) (w : World) (h0 : 0 ≤ t) (hx : kFl t = x) : Calls Tryd.prog 63 #[.int .i64 t] w fun e w' => e = .returned (.int .i64 x) ∧ Below w.heap.size w w' := by
  have HB := Aside0.mk (Below.refl w.heap.size w)
  subst hx
  by_cases h10 : t < 10
  · obtain rfl | rfl | rfl | rfl | rfl | rfl | rfl | rfl | rfl | rfl : t = 0 ∨ t = 1 ∨ t = 2 ∨ t = 3 ∨ t = 4 ∨ t = 5 ∨ t = 6 ∨ t = 7 ∨ t = 8 ∨ t = 9 := by omega
    · have hi := flagI0
      go_enter Tryd.func63, Tryd.ntmps63
      go_wp2_with fail
      go_ret
      exact ⟨rfl, HB.out⟩
    · have hi := flagI1
      go_enter Tryd.func63, Tryd.ntmps63
      go_wp2_with fail
      go_ret
      exact ⟨rfl, HB.out⟩
    · have hi := flagI2
      go_enter Tryd.func63, Tryd.ntmps63
      go_wp2_with fail
      go_ret
      exact ⟨rfl, HB.out⟩
    · have hi := flagI3
      go_enter Tryd.func63, Tryd.ntmps63
      go_wp2_with fail
      go_ret
      exact ⟨rfl, HB.out⟩
    · have hi := flagI4
      go_enter Tryd.func63, Tryd.ntmps63
      go_wp2_with fail
      go_ret
      exact ⟨rfl, HB.out⟩
    · have hi := flagI5
      go_enter Tryd.func63, Tryd.ntmps63
      go_wp2_with fail
      go_ret
      exact ⟨rfl, HB.out⟩
    · have hi := flagI6
      go_enter Tryd.func63, Tryd.ntmps63
      go_wp2_with fail
      go_ret
      exact ⟨rfl, HB.out⟩
    · have hi := flagI7
      go_enter Tryd.func63, Tryd.ntmps63
      go_wp2_with fail
      go_ret
      exact ⟨rfl, HB.out⟩
    · have hi := flagI8
      go_enter Tryd.func63, Tryd.ntmps63
      go_wp2_with fail
      go_ret
      exact ⟨rfl, HB.out⟩
    · have hi := flagI9
      go_enter Tryd.func63, Tryd.ntmps63
      go_wp2_with fail
      go_ret
      exact ⟨rfl, HB.out⟩
  · have h9 : decide (9 < t) = true := decide_eq_true (by omega)
    have e1 : kFl t = 255 := if_neg h10
    rw [e1]
    clear h0 h10 e1
    go_enter Tryd.func63, Tryd.ntmps63
    go_wp2_with fail
    go_ret
    exact ⟨rfl, HB.out⟩
end Go.Proofs.YtoffhlbdfhhhjaaDoor.Fr
