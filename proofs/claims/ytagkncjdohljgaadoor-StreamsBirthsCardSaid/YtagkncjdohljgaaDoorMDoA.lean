/- An event on the table: Do. The package's variables hold what the program lays. -/
import Derived.Test.YtagkncjdohljgaaDoorMTab
import Derived.Test.YtagkncjdohljgaaDoorMState
import Derived.Deep.DeepCutAuto
import Derived.Deep.CutBlock
namespace Go.Proofs.YtagkncjdohljgaaDoor.St
open Go Go.RowKit Go.Proofs.YtagkncjdohljgaaDoorW.PrintWords Go.Proofs.YtagkncjdohljgaaDoorW.PrintLast Go.Proofs.YtagkncjdohljgaaDoorW.PrintMore Go.Proofs.YtagkncjdohljgaaDoor.QL
set_option linter.unusedSimpArgs false
set_option linter.unusedVariables false
set_option maxHeartbeats 2000000
set_option maxRecDepth 100000
def Tb.gives (T : Tb) (id : Int) (got : Bool) (k : Int) : Bool := if k = 5 then decide (id % 2 = 0) && (got == T.cl) else decide (id % 2 = 1) && !(got == T.cl)
def refV (got : Bool) : Int × Int := if got = true then (3, 1) else (4, 0)
def Tb.put (T : Tb) (id : Int) (x : Sx) : Tb := ⟨T.cl, updP T.m id x, if (T.m id).isNone = true ∧ id % 2 = 0 then id else T.l0, if (T.m id).isNone = true ∧ id % 2 = 1 then id else T.l1⟩
def Tb.act (T : Tb) (id : Int) (got : Bool) (k : Int) : (Int × Int) × Tb :=
  if k < 1 ∨ 8 < k then ((4, 0), T) else if ¬ In31 id then (refV got, T)
  else if T.stt id = 0 ∧ (k = 1 ∨ k = 2 ∨ k = 5) ∧ T.gives id got k = false then (refV got, T)
  else if T.cut id = true ∧ got = true ∧ k ≠ 5 then ((1, 0), T)
  else if (nx got k (T.stt id)).2.1 ≠ 0 ∨ (nx got k (T.stt id)).1 = T.stt id then ((nx got k (T.stt id)).2, T)
  else ((nx got k (T.stt id)).2, T.put id ⟨(nx got k (T.stt id)).1, T.cut id || (decide (k = 6) && !got)⟩)
theorem gives_calls (base : Nat) (S : Nat → Prop) (p : Nat) (T : Tb) (id : Int) (got : Bool) (k : Int) (w : World) (h : TAt w base S p T) (hid : In31 id) : Calls Tryd.prog 44 #[.pointer (some ⟨p, 0, none⟩), .int .i64 id, .agg #[.bool got, .int .i64 k]] w fun e w' => e = .returned (.bool (T.gives id got k)) ∧ Below w.heap.size w w' := by
  have H := Aside0.mk h
  unfold Tb.gives
  obtain ⟨c, hc⟩ : ∃ c, T.cl = c := ⟨_, rfl⟩
  have HC := Aside0.mk hc
  rw [hc]
  clear h hc
  by_cases hk : k = 5
  · have k5 : (k == 5) = true := beq_iff_eq.mpr hk
    rw [if_pos hk]
    rcases par hid.1 with ⟨p1, p2⟩ | ⟨p1, p2⟩
    · rw [decide_eq_true p1, Bool.true_and]
      clear p1 hk hid
      go_enter Tryd.func44, Tryd.ntmps44
      go_upto_region 2 with fail
      obtain ⟨W, hW⟩ : ∃ W, w.alloc (.cells #[.bool got, .int .i64 k] 55) = W := ⟨_, rfl⟩
      have hb : Below w.heap.size w W := by rw [← hW]; exact below_alloc (Below.refl _ _) _
      have c0 : W.cell? ⟨w.heap.size, 0, none⟩ = some (.bool got) := by rw [← hW]; exact blk_cell (blk_new _ _) 0
      have z0 : W.cell? ⟨p, 0, none⟩ = some (.bool c) := by
        obtain ⟨mb, pt, hbb, _⟩ := (H.out.low hb).ex
        rw [HC.out] at hbb
        exact blk_cell hbb 0
      have HB := Aside0.mk hb
      rw [hW]
      clear hW hb
      go_quiet (fail)
      go_wp2_with fail
      go_ret
      exact ⟨rfl, pw_below_drewN HB.out _⟩
    · rw [decide_eq_false (by omega), Bool.false_and]
      clear p1 hk hid
      go_enter Tryd.func44, Tryd.ntmps44
      go_upto_region 2 with fail
      obtain ⟨W, hW⟩ : ∃ W, w.alloc (.cells #[.bool got, .int .i64 k] 55) = W := ⟨_, rfl⟩
      have hb : Below w.heap.size w W := by rw [← hW]; exact below_alloc (Below.refl _ _) _
      have c0 : W.cell? ⟨w.heap.size, 0, none⟩ = some (.bool got) := by rw [← hW]; exact blk_cell (blk_new _ _) 0
      have z0 : W.cell? ⟨p, 0, none⟩ = some (.bool c) := by
        obtain ⟨mb, pt, hbb, _⟩ := (H.out.low hb).ex
        rw [HC.out] at hbb
        exact blk_cell hbb 0
      have HB := Aside0.mk hb
      rw [hW]
      clear hW hb
      go_quiet (fail)
      go_wp2_with fail
      go_ret
      exact ⟨rfl, pw_below_drewN HB.out _⟩
  · have k5 : (k == 5) = false := beq_eq_false_iff_ne.mpr hk
    rw [if_neg hk]
    rcases par hid.1 with ⟨p1, p2⟩ | ⟨p1, p2⟩
    · rw [decide_eq_false (by omega), Bool.false_and]
      clear p1 hk hid
      go_enter Tryd.func44, Tryd.ntmps44
      go_upto_region 3 with fail
      obtain ⟨W, hW⟩ : ∃ W, w.alloc (.cells #[.bool got, .int .i64 k] 55) = W := ⟨_, rfl⟩
      have hb : Below w.heap.size w W := by rw [← hW]; exact below_alloc (Below.refl _ _) _
      have c0 : W.cell? ⟨w.heap.size, 0, none⟩ = some (.bool got) := by rw [← hW]; exact blk_cell (blk_new _ _) 0
      have z0 : W.cell? ⟨p, 0, none⟩ = some (.bool c) := by
        obtain ⟨mb, pt, hbb, _⟩ := (H.out.low hb).ex
        rw [HC.out] at hbb
        exact blk_cell hbb 0
      have HB := Aside0.mk hb
      rw [hW]
      clear hW hb
      go_quiet (fail)
      go_wp2_with fail
      go_ret
      exact ⟨rfl, pw_below_drewN HB.out _⟩
    · rw [decide_eq_true p1, Bool.true_and]
      clear p1 hk hid
      go_enter Tryd.func44, Tryd.ntmps44
      go_upto_region 3 with fail
      obtain ⟨W, hW⟩ : ∃ W, w.alloc (.cells #[.bool got, .int .i64 k] 55) = W := ⟨_, rfl⟩
      have hb : Below w.heap.size w W := by rw [← hW]; exact below_alloc (Below.refl _ _) _
      have c0 : W.cell? ⟨w.heap.size, 0, none⟩ = some (.bool got) := by rw [← hW]; exact blk_cell (blk_new _ _) 0
      have z0 : W.cell? ⟨p, 0, none⟩ = some (.bool c) := by
        obtain ⟨mb, pt, hbb, _⟩ := (H.out.low hb).ex
        rw [HC.out] at hbb
        exact blk_cell hbb 0
      have HB := Aside0.mk hb
      rw [hW]
      clear hW hb
      go_quiet (fail)
      go_wp2_with fail
      go_ret
      exact ⟨rfl, pw_below_drewN HB.out _⟩
end Go.Proofs.YtagkncjdohljgaaDoor.St
