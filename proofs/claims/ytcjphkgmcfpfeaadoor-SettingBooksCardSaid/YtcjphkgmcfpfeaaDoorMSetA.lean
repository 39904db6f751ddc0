/- Where a set has the field of an ID, and Apply of the package setting, by hand. No condition but those in each statement. -/
import Derived.Test.YtcjphkgmcfpfeaaDoorQLx2
import Derived.Test.YtcjphkgmcfpfeaaDoorQLx3
import Derived.Test.YtcjphkgmcfpfeaaDoorQLx4
import Derived.StillTailTactics
import Derived.BigQuiet
namespace Go.Proofs.YtcjphkgmcfpfeaaDoor.MS
open Go Go.RowKit Go.Proofs.YtcjphkgmcfpfeaaDoorW.PrintWords Go.Proofs.YtcjphkgmcfpfeaaDoorW.PrintLast Go.Proofs.YtcjphkgmcfpfeaaDoorW.PrintMore Go.Proofs.YtcjphkgmcfpfeaaDoor.QL
attribute [local go_sem] max2_int min2_int max_two min_two
set_option linter.unusedSimpArgs false
set_option linter.unusedVariables false
set_option maxHeartbeats 4000000
set_option maxRecDepth 100000
/-- Where a set at block g has the field of an ID. -/
def place (g : Nat) (id : Int) : Option Addr := if 1 ≤ id ∧ id ≤ 6 then some ⟨g, (id - 1).toNat, none⟩ else none
theorem field_lit (g : Nat) (id : Int) (w : World) (hid : id = 1 ∨ id = 2 ∨ id = 3 ∨ id = 4 ∨ id = 5 ∨ id = 6) :
    Calls Tryd.prog 36 #[.pointer (some ⟨g, 0, none⟩), .int .i64 id] w fun e w' => e = .returned (.pointer (place g id)) ∧ Below w.heap.size w w' := by
  have HB := Aside0.mk (Below.refl w.heap.size w)
  rcases hid with rfl | rfl | rfl | rfl | rfl | rfl
  all_goals
    go_enter Tryd.func36, Tryd.ntmps36
    go_wp2_with fail
    go_still_tail 18, (by kernel_rfl)
    go_wp2_with fail
    go_ret
    exact ⟨rfl, by repeat (first | (with_reducible first | exact HB.out | apply below_alloc | apply pw_below_drewN | apply below_drew1) | exact HB.out)⟩
theorem field_low (g : Nat) (id : Int) (w : World) (hid : id < 1) :
    Calls Tryd.prog 36 #[.pointer (some ⟨g, 0, none⟩), .int .i64 id] w fun e w' => e = .returned (.pointer (place g id)) ∧ Below w.heap.size w w' := by
  have HB := Aside0.mk (Below.refl w.heap.size w)
  have h1 : decide (id < 1) = true := decide_eq_true hid
  have h2 : place g id = none := if_neg (by omega)
  replace h2 := Aside0.mk h2
  clear hid
  go_enter Tryd.func36, Tryd.ntmps36
  go_wp2_with fail
  go_still_tail 18, (by kernel_rfl)
  go_wp2_with fail
  go_ret
  exact ⟨by rw [h2.out]; rfl, by repeat (first | (with_reducible first | exact HB.out | apply below_alloc | apply pw_below_drewN | apply below_drew1) | exact HB.out)⟩
theorem field_high (g : Nat) (id : Int) (w : World) (hid : 6 < id) :
    Calls Tryd.prog 36 #[.pointer (some ⟨g, 0, none⟩), .int .i64 id] w fun e w' => e = .returned (.pointer (place g id)) ∧ Below w.heap.size w w' := by
  have HB := Aside0.mk (Below.refl w.heap.size w)
  have h1 : decide (id < 1) = false := decide_eq_false (by omega)
  have h3 : decide (6 < id) = true := decide_eq_true hid
  have h2 : place g id = none := if_neg (by omega)
  replace h2 := Aside0.mk h2
  clear hid
  go_enter Tryd.func36, Tryd.ntmps36
  go_wp2_with fail
  go_still_tail 18, (by kernel_rfl)
  go_wp2_with fail
  go_ret
  exact ⟨by rw [h2.out]; rfl, by repeat (first | (with_reducible first | exact HB.out | apply below_alloc | apply pw_below_drewN | apply below_drew1) | exact HB.out)⟩
theorem field_calls (g : Nat) (id : Int) (w : World) :
    Calls Tryd.prog 36 #[.pointer (some ⟨g, 0, none⟩), .int .i64 id] w fun e w' => e = .returned (.pointer (place g id)) ∧ Below w.heap.size w w' := by
  by_cases h1 : id < 1
  · exact field_low g id w h1
  by_cases h2 : 6 < id
  · exact field_high g id w h2
  exact field_lit g id w (by omega)
/-- The six fields. -/
structure St where
  a : Int
  b : Int
  c : Int
  d : Int
  e : Int
  f : Int
deriving DecidableEq
def St.arr (s : St) : Array Value := #[.int .i64 s.a, .int .i64 s.b, .int .i64 s.c, .int .i64 s.d, .int .i64 s.e, .int .i64 s.f]
def St.zero : St := ⟨0, 0, 0, 0, 0, 0⟩
def top (id : Int) : Int := if id = 5 then 65536 else 2147483647
def put (s : St) (id v : Int) : St :=
  if id = 1 then { s with a := mn v (top id) } else if id = 2 then { s with b := mn v (top id) } else if id = 3 then { s with c := mn v (top id) } else if id = 4 then { s with d := mn v (top id) } else if id = 5 then { s with e := mn v (top id) } else if id = 6 then { s with f := mn v (top id) } else s
theorem put_arr (s : St) (id v : Int) (h : 1 ≤ id ∧ id ≤ 6) : s.arr.setIfInBounds (id - 1).toNat (.int .i64 (mn v (top id))) = (put s id v).arr := by
  obtain rfl | rfl | rfl | rfl | rfl | rfl : id = 1 ∨ id = 2 ∨ id = 3 ∨ id = 4 ∨ id = 5 ∨ id = 6 := by omega
  all_goals simp [St.arr, put]
theorem put_other (s : St) (id v : Int) (h : ¬ (1 ≤ id ∧ id ≤ 6)) : put s id v = s := by
  unfold put
  rw [if_neg (by omega), if_neg (by omega), if_neg (by omega), if_neg (by omega), if_neg (by omega), if_neg (by omega)]
theorem most_f (id : Int) : setting_most.f id = some (top id) := by
  unfold setting_most.f top
  split <;> rfl
def valid (id v : Int) (cl : Bool) : Int :=
  if id < 0 ∨ 65535 < id ∨ v < 0 ∨ 4294967295 < v then 1 else if id = 2 then (if 1 < v ∨ (v = 1 ∧ cl = false) then 1 else 0) else if id = 4 then (if 2147483647 < v then 3 else 0) else if id = 5 then (if v < 16384 ∨ 16777215 < v then 1 else 0) else 0
def apply (cl : Bool) : St → List S28 → St × Int
  | s, [] => (s, 0)
  | s, p :: t => if valid p.f0 p.f1 cl = 0 then apply cl (put s p.f0 p.f1) t else (St.zero, valid p.f0 p.f1 cl)
theorem valid_f (id v : Int) (cl : Bool) : ∃ k, setting_Valid.f k id v cl = some (valid id v cl) := by
  refine ⟨9, ?_⟩
  unfold setting_Valid.f setting_within.f valid
  by_cases h1 : id < 0
  · rw [if_neg (show ¬ (id ≥ 0) by omega)]; simp [setting_Valid.j0, h1]
  rw [if_pos (show id ≥ 0 by omega)]
  by_cases h2 : 65535 < id
  · simp [setting_Valid.j0, h1, h2, show ¬ (id ≤ 65535) by omega]
  simp only [Option.bind_some, show decide (id ≤ 65535) = true from decide_eq_true (by omega), if_true]
  by_cases h3 : v < 0
  · rw [if_neg (show ¬ (v ≥ 0) by omega)]; simp [setting_Valid.j0, h1, h2, h3]
  rw [if_pos (show v ≥ 0 by omega)]
  by_cases h4 : 4294967295 < v
  · simp [setting_Valid.j0, h1, h2, h3, h4, show ¬ (v ≤ 4294967295) by omega]
  simp only [Option.bind_some, show decide (v ≤ 4294967295) = true from decide_eq_true (by omega)]
  rw [if_neg (show ¬ (id < 0 ∨ 65535 < id ∨ v < 0 ∨ 4294967295 < v) by omega)]
  by_cases h5 : id = 2
  · subst h5
    by_cases h6 : 1 < v
    · simp [setting_Valid.j0, h6]
    by_cases h7 : v = 1
    · subst h7; cases cl <;> simp [setting_Valid.j0]
    simp [setting_Valid.j0, h6, h7]
  by_cases h6 : id = 4
  · subst h6
    by_cases h7 : 2147483647 < v
    · simp [setting_Valid.j0, h7]
    simp [setting_Valid.j0, h7]
  by_cases h7 : id = 5
  · subst h7
    by_cases h8 : v < 16384
    · simp [setting_Valid.j0, setting_within.f, h8, show ¬ (16384 ≤ v) by omega]
    by_cases h9 : 16777215 < v
    · simp [setting_Valid.j0, setting_within.f, h8, h9, show 16384 ≤ v by omega, show ¬ (v ≤ 16777215) by omega]
    simp [setting_Valid.j0, setting_within.f, h8, h9, show 16384 ≤ v by omega, show v ≤ 16777215 by omega]
  simp [setting_Valid.j0, h5, h6, h7]
end Go.Proofs.YtcjphkgmcfpfeaaDoor.MS
