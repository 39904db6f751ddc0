/- Frames: the table of types, where a frame may stand, whether it is padded. The package's variable holds what the program lays; the frame lies in a block. -/
import Derived.Test.YtoffhlbdfhhhjaaDoorMFrC
namespace Go.Proofs.YtoffhlbdfhhhjaaDoor.Fr
open Go Go.RowKit Go.Proofs.YtoffhlbdfhhhjaaDoorW.PrintWords Go.Proofs.YtoffhlbdfhhhjaaDoorW.PrintLast Go.Proofs.YtoffhlbdfhhhjaaDoorW.PrintMore Go.Proofs.YtoffhlbdfhhhjaaDoor.QL
set_option linter.unusedSimpArgs false
set_option linter.unusedVariables false
set_option maxHeartbeats 4000000
set_option maxRecDepth 100000
/-- The table's numbers: a type's flags, and where it may stand. -/
def kTab : List Int := [9, 0, 45, 0, 0, 0, 0, 0, 1, 1, 12, 0, 1, 1, 0, 1, 0, 2, 4, 0]
/-- The package's variable holds what the program lays. -/
def GL (w : World) : Prop := ∀ (i : Nat) (n : Int), kTab[i]? = some n → w.cell? ⟨0, i, none⟩ = some (.int .i64 n)
theorem GL.lt {w : World} (h : GL w) : 0 < w.heap.size := World.block_lt_of_cell? w ⟨0, 0, none⟩ (h 0 9 rfl)
theorem GL.to {B : Nat} {w w1 : World} (h : GL w) (hB : 0 < B) (hb : Below B w w1) : GL w1 := fun i n hi => (hb.cell (p := ⟨0, i, none⟩) hB).trans (h i n hi)
theorem GL.below {w w1 : World} (h : GL w) (hb : Below w.heap.size w w1) : GL w1 := h.to h.lt hb
/-- A type's flags. -/
def kFl (t : Int) : Int := if t < 10 then (if t = 0 then 9 else if t = 1 then 45 else if t = 4 then 1 else if t = 5 then 12 else if t = 6 then 1 else if t = 9 then 4 else 0) else 255
/-- Where a type may stand: 0 on a stream, 1 on none, 2 both. -/
def kSt (t : Int) : Int := if t < 10 then (if t = 4 then 1 else if t = 6 then 1 else if t = 7 then 1 else if t = 8 then 2 else 0) else 2
theorem kindOf_calls (t x y : Int) (w : World) (hG : GL w) (h0 : 0 ≤ t) (hx : kFl t = x) (hy : kSt t = y) : Calls Tryd.prog 58 #[.int .i64 t] w fun e w' => e = .returned (.agg #[.int .i64 x, .int .i64 y]) ∧ Below w.heap.size w w' := by
  have hlt := hG.lt
  have HB := Aside0.mk (Below.refl w.heap.size w)
  subst hx hy
  by_cases h10 : t < 10
  · obtain rfl | rfl | rfl | rfl | rfl | rfl | rfl | rfl | rfl | rfl : t = 0 ∨ t = 1 ∨ t = 2 ∨ t = 3 ∨ t = 4 ∨ t = 5 ∨ t = 6 ∨ t = 7 ∨ t = 8 ∨ t = 9 := by omega
    · have z0 := hG 0 9 rfl
      have z1 := hG 1 0 rfl
      clear hG
      go_enter Tryd.func58, Tryd.ntmps58
      go_wp2_with fail
      exact bodyPost_ret (v := .agg #[.int .i64 9, .int .i64 0]) (by simp [results, Tryd.results58, go_sem]) rfl ⟨rfl, below_alloc HB.out _⟩
    · have z0 := hG 2 45 rfl
      have z1 := hG 3 0 rfl
      clear hG
      go_enter Tryd.func58, Tryd.ntmps58
      go_wp2_with fail
      exact bodyPost_ret (v := .agg #[.int .i64 45, .int .i64 0]) (by simp [results, Tryd.results58, go_sem]) rfl ⟨rfl, below_alloc HB.out _⟩
    · have z0 := hG 4 0 rfl
      have z1 := hG 5 0 rfl
      clear hG
      go_enter Tryd.func58, Tryd.ntmps58
      go_wp2_with fail
      exact bodyPost_ret (v := .agg #[.int .i64 0, .int .i64 0]) (by simp [results, Tryd.results58, go_sem]) rfl ⟨rfl, below_alloc HB.out _⟩
    · have z0 := hG 6 0 rfl
      have z1 := hG 7 0 rfl
      clear hG
      go_enter Tryd.func58, Tryd.ntmps58
      go_wp2_with fail
      exact bodyPost_ret (v := .agg #[.int .i64 0, .int .i64 0]) (by simp [results, Tryd.results58, go_sem]) rfl ⟨rfl, below_alloc HB.out _⟩
    · have z0 := hG 8 1 rfl
      have z1 := hG 9 1 rfl
      clear hG
      go_enter Tryd.func58, Tryd.ntmps58
      go_wp2_with fail
      exact bodyPost_ret (v := .agg #[.int .i64 1, .int .i64 1]) (by simp [results, Tryd.results58, go_sem]) rfl ⟨rfl, below_alloc HB.out _⟩
    · have z0 := hG 10 12 rfl
      have z1 := hG 11 0 rfl
      clear hG
      go_enter Tryd.func58, Tryd.ntmps58
      go_wp2_with fail
      exact bodyPost_ret (v := .agg #[.int .i64 12, .int .i64 0]) (by simp [results, Tryd.results58, go_sem]) rfl ⟨rfl, below_alloc HB.out _⟩
    · have z0 := hG 12 1 rfl
      have z1 := hG 13 1 rfl
      clear hG
      go_enter Tryd.func58, Tryd.ntmps58
      go_wp2_with fail
      exact bodyPost_ret (v := .agg #[.int .i64 1, .int .i64 1]) (by simp [results, Tryd.results58, go_sem]) rfl ⟨rfl, below_alloc HB.out _⟩
    · have z0 := hG 14 0 rfl
      have z1 := hG 15 1 rfl
      clear hG
      go_enter Tryd.func58, Tryd.ntmps58
      go_wp2_with fail
      exact bodyPost_ret (v := .agg #[.int .i64 0, .int .i64 1]) (by simp [results, Tryd.results58, go_sem]) rfl ⟨rfl, below_alloc HB.out _⟩
    · have z0 := hG 16 0 rfl
      have z1 := hG 17 2 rfl
      clear hG
      go_enter Tryd.func58, Tryd.ntmps58
      go_wp2_with fail
      exact bodyPost_ret (v := .agg #[.int .i64 0, .int .i64 2]) (by simp [results, Tryd.results58, go_sem]) rfl ⟨rfl, below_alloc HB.out _⟩
    · have z0 := hG 18 4 rfl
      have z1 := hG 19 0 rfl
      clear hG
      go_enter Tryd.func58, Tryd.ntmps58
      go_wp2_with fail
      exact bodyPost_ret (v := .agg #[.int .i64 4, .int .i64 0]) (by simp [results, Tryd.results58, go_sem]) rfl ⟨rfl, below_alloc HB.out _⟩
  · have h10' : decide (t < 10) = false := decide_eq_false h10
    have e1 : kFl t = 255 := if_neg h10
    have e2 : kSt t = 2 := if_neg h10
    rw [e1, e2]
    clear hG
    go_enter Tryd.func58, Tryd.ntmps58
    go_wp2_with fail
    exact bodyPost_ret (v := .agg #[.int .i64 255, .int .i64 2]) (by simp [results, Tryd.results58, go_sem]) rfl ⟨rfl, below_alloc HB.out _⟩
theorem fld0 (x y : Int) (w : World) : (Instr.field 100 (.agg #[.int .i64 x, .int .i64 y]) 0).run Tryd.prog w = .ok (.int .i64 x) w := by kernel_rfl
theorem fld1 (x y : Int) (w : World) : (Instr.field 100 (.agg #[.int .i64 x, .int .i64 y]) 1).run Tryd.prog w = .ok (.int .i64 y) w := by kernel_rfl
/-- May a frame of the type stand there? -/
def stB (t st : Int) : Bool := if kSt t = 0 then st != 0 else if kSt t = 1 then st == 0 else true
theorem stands_calls (g : Nat) (f : Fr) (A : Option Addr) (c : Nat) (x : Bool) (w : World) (hf : At w g f A c) (hG : GL w) (h0 : 0 ≤ f.ty) (hx : stB f.ty f.st = x) : Calls Tryd.prog 59 #[.pointer (some ⟨g, 0, none⟩)] w fun e w' => e = .returned (.bool x) ∧ Below w.heap.size w w' := by
  have HF := Aside0.mk hf
  have HG := Aside0.mk hG
  have HX := Aside0.mk hx
  have H0 := Aside0.mk h0
  have z0 := hf.c0
  obtain ⟨y, hy⟩ : ∃ y, kSt f.ty = y := ⟨_, rfl⟩
  have HY := Aside0.mk hy
  clear hf hG hx h0 hy
  have hfl := fld1
  go_enter Tryd.func59, Tryd.ntmps59
  go_upto_block 0 with (go_at_call 58; refine (kindOf_calls f.ty _ y _ HG.out H0.out rfl HY.out).mono ?_; rintro e w5 ⟨rfl, hb⟩; have z2 := (HF.out.below (blk_lt HF.out) hb).c2; have HB := Aside0.mk hb; clear hb)
  have hst := HX.out
  unfold stB at hst
  rw [HY.out] at hst
  by_cases y0 : y = 0
  · subst y0
    have HST : Aside0 ((f.st != 0) = x) := ⟨by simpa using hst⟩
    clear hst
    go_wp2_with fail
    go_ret
    exact ⟨by rw [← HST.out]; rfl, HB.out⟩
  · have y0' : (y == 0) = false := beq_eq_false_iff_ne.mpr y0
    by_cases y1 : y = 1
    · subst y1
      have HST : Aside0 ((f.st == 0) = x) := ⟨by simpa using hst⟩
      clear hst
      go_wp2_with fail
      go_ret
      exact ⟨by rw [← HST.out]; rfl, HB.out⟩
    · have y1' : (y == 1) = false := beq_eq_false_iff_ne.mpr y1
      have HST : Aside0 (true = x) := ⟨by rw [if_neg y0, if_neg y1] at hst; exact hst⟩
      clear hst y0 y1
      go_wp2_with fail
      go_ret
      exact ⟨by rw [← HST.out]; rfl, HB.out⟩
/-- Is it padded? -/
def padB (f : Fr) : Bool := decide (f.ty < 10) && has f.fl 8
theorem padded_calls (g : Nat) (f : Fr) (A : Option Addr) (c : Nat) (x : Bool) (w : World) (hf : At w g f A c) (hx : padB f = x) : Calls Tryd.prog 46 #[.pointer (some ⟨g, 0, none⟩)] w fun e w' => e = .returned (.bool x) ∧ w = w' := by
  have z0 := hf.c0
  have z1 := hf.c1
  have HX := Aside0.mk hx
  clear hf hx
  by_cases h10 : f.ty < 10
  · have h10' : decide (f.ty < 10) = true := decide_eq_true h10
    have hst : has f.fl 8 = x := by have h := HX.out; unfold padB at h; rw [h10'] at h; simpa using h
    have HST : Aside0 ((Go.bits .and .i64 f.fl 8 != 0) = x) := ⟨hst⟩
    clear hst
    go_enter Tryd.func46, Tryd.ntmps46
    go_wp2_with fail
    go_ret
    exact ⟨by rw [← HST.out]; rfl, rfl⟩
  · have h10' : decide (f.ty < 10) = false := decide_eq_false h10
    have HST : Aside0 (false = x) := ⟨by have h := HX.out; unfold padB at h; rw [h10'] at h; simpa using h⟩
    clear h10
    go_enter Tryd.func46, Tryd.ntmps46
    go_wp2_with fail
    go_ret
    exact ⟨by rw [← HST.out]; rfl, rfl⟩
/-- Does a number lie in a range? -/
def inR (n a b : Int) : Bool := decide (a ≤ n) && decide (n ≤ b)
theorem within_calls (n a b : Int) (x : Bool) (w : World) (hx : inR n a b = x) : Calls Tryd.prog 71 #[.int .i64 n, .int .i64 a, .int .i64 b] w fun e w' => e = .returned (.bool x) ∧ Below w.heap.size w w' := by
  subst hx
  refine (frame_within.calls n a b (inR n a b) w ?_).mono (fun _ _ h => ⟨h.1, by first | exact h.2 | exact h.2.below⟩)
  unfold frame_within.f inR
  by_cases h : n ≥ a
  · rw [if_pos h]
    have h' : decide (a ≤ n) = true := decide_eq_true h
    rw [h']; rfl
  · rw [if_neg h]
    have h' : decide (a ≤ n) = false := decide_eq_false h
    rw [h']; rfl
end Go.Proofs.YtoffhlbdfhhhjaaDoor.Fr
