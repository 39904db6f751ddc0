/- Frames out of bytes: what a right frame is, what each type takes of its payload. The frame lies in a block of the call's own. -/
import Derived.Test.YtoffhlbdfhhhjaaDoorMFp1
import Derived.RegionTactic
namespace Go.Proofs.YtoffhlbdfhhhjaaDoor.Fr
open Go Go.RowKit Go.Proofs.YtoffhlbdfhhhjaaDoorW.PrintWords Go.Proofs.YtoffhlbdfhhhjaaDoorW.PrintLast Go.Proofs.YtoffhlbdfhhhjaaDoorW.PrintMore Go.Proofs.YtoffhlbdfhhhjaaDoor.QL
set_option linter.unusedSimpArgs false
set_option linter.unusedVariables false
set_option maxHeartbeats 40000000
set_option maxRecDepth 100000
theorem At.low {w w1 : World} {g : Nat} {f : Fr} {A : Option Addr} {c : Nat} (h : At w g f A c) (hb : Below w.heap.size w w1) : At w1 g f A c := h.below (blk_lt h) hb
/-- What the first line asks. -/
def headB (f : Fr) : Bool := inR f.ty 0 255 && (Go.bits .andNot .i64 f.fl (kFl f.ty) == 0) && inR f.st 0 2147483647 && stB f.ty f.st
def prioB (f : Fr) : Bool := f.ty == 2 || (f.ty == 1 && has f.fl 32)
/-- What the frame may have, field by field. -/
def ownPad (f : Fr) : Int := if padB f = true then f.pad else 0
def ownDep (f : Fr) : Int := if prioB f = true then f.dep else 0
def ownEx (f : Fr) : Bool := if prioB f = true then f.ex else false
def ownWt (f : Fr) : Int := if prioB f = true then f.wt else 0
def ownCo (f : Fr) : Int := if f.ty = 3 ∨ f.ty = 7 then f.co else 0
def ownLa (f : Fr) : Int := if f.ty = 8 ∨ f.ty = 7 ∨ f.ty = 5 then f.la else 0
def ownDa (f : Fr) : ByteArray := if f.ty = 3 ∨ f.ty = 4 ∨ f.ty = 2 ∨ f.ty = 8 then ByteArray.empty else f.da
def parB (f : Fr) : Bool := !(has f.fl 1 && decide (0 < f.ps.length)) && f.ps.all fun p => inR p.f0 0 65535 && inR p.f1 0 4294967295
def lenB (f : Fr) : Bool := !((f.ty == 6 && f.da.size != 8) || (f.ty != 4 && decide (0 < f.ps.length)))
def numB (f : Fr) : Bool := inR f.pad 0 255 && inR f.dep 0 2147483647 && inR f.co 0 4294967295 && inR f.la 0 2147483647
def sameB (f : Fr) : Bool := ownPad f == f.pad && ownDep f == f.dep && ownEx f == f.ex && ownWt f == f.wt && ownCo f == f.co && ownLa f == f.la && (ownDa f).toList == f.da.toList
/-- Is it a frame that can be written? -/
def rightB (f : Fr) : Bool := headB f && (!prioB f || inR f.wt 1 256) && (f.ty != 4 || parB f) && lenB f && numB f && sameB f
end Go.Proofs.YtoffhlbdfhhhjaaDoor.Fr
namespace Go.Proofs.YtoffhlbdfhhhjaaDoor.Fr
open Go Go.RowKit Go.Proofs.YtoffhlbdfhhhjaaDoorW.PrintWords Go.Proofs.YtoffhlbdfhhhjaaDoorW.PrintLast Go.Proofs.YtoffhlbdfhhhjaaDoorW.PrintMore Go.Proofs.YtoffhlbdfhhhjaaDoor.QL
set_option linter.unusedSimpArgs false
set_option linter.unusedVariables false
set_option maxHeartbeats 40000000
set_option maxRecDepth 100000
/-- What a type lays. -/
def layB (f : Fr) : List UInt8 :=
  if f.ty = 1 then (if has f.fl 32 = true then weight f else []) ++ f.da.data.toList
  else if f.ty = 2 then weight f
  else if f.ty = 3 then be 4 f.co
  else if f.ty = 4 then params f.ps
  else if f.ty = 5 then be 4 f.la ++ f.da.data.toList
  else if f.ty = 7 then be 4 f.la ++ be 4 f.co ++ f.da.data.toList
  else if f.ty = 8 then be 4 f.la
  else f.da.data.toList
/-- The payload. -/
def payB (f : Fr) : List UInt8 := (if padB f = true then be 1 f.pad else []) ++ layB f ++ List.replicate f.pad.toNat 0
/-- A frame's bytes, or the refusal. -/
def wr (f : Fr) : Int × List UInt8 :=
  if rightB f = true then (if 65536 < (payB f).length then (3, []) else (0, be 3 (payB f).length ++ be 1 f.ty ++ be 1 f.fl ++ be 4 f.st ++ payB f)) else (60, [])
theorem inR_iff {n a b : Int} (h : inR n a b = true) : a ≤ n ∧ n ≤ b := by
  unfold inR at h
  simpa only [Bool.and_eq_true, decide_eq_true_eq] using h
end Go.Proofs.YtoffhlbdfhhhjaaDoor.Fr
namespace Go.Proofs.YtoffhlbdfhhhjaaDoor.Fr
open Go Go.RowKit Go.Proofs.YtoffhlbdfhhhjaaDoorW.PrintWords Go.Proofs.YtoffhlbdfhhhjaaDoorW.PrintLast Go.Proofs.YtoffhlbdfhhhjaaDoorW.PrintMore Go.Proofs.YtoffhlbdfhhhjaaDoor.QL
set_option linter.unusedSimpArgs false
set_option linter.unusedVariables false
set_option maxHeartbeats 4000000
set_option maxRecDepth 100000
theorem payloadOf_1 (t : Int) (ht : t = 1) (w : World) : Calls Tryd.prog 48 #[.int .i64 t] w fun e w' => e = .returned (.agg #[.func (.func 73) #[] #[], .func (.func 74) #[] #[]]) ∧ Below w.heap.size w w' := by
  subst ht
  have HB := Aside0.mk (Below.refl w.heap.size w)
  go_enter Tryd.func48, Tryd.ntmps48
  go_wp2_with fail
  exact bodyPost_ret (v := .agg #[.func (.func 73) #[] #[], .func (.func 74) #[] #[]]) (by simp [results, Tryd.results48, go_sem]) rfl ⟨rfl, below_alloc HB.out _⟩
theorem payloadOf_2 (t : Int) (ht : t = 2) (w : World) : Calls Tryd.prog 48 #[.int .i64 t] w fun e w' => e = .returned (.agg #[.func (.func 75) #[] #[], .func (.func 76) #[] #[]]) ∧ Below w.heap.size w w' := by
  subst ht
  have HB := Aside0.mk (Below.refl w.heap.size w)
  go_enter Tryd.func48, Tryd.ntmps48
  go_wp2_with fail
  exact bodyPost_ret (v := .agg #[.func (.func 75) #[] #[], .func (.func 76) #[] #[]]) (by simp [results, Tryd.results48, go_sem]) rfl ⟨rfl, below_alloc HB.out _⟩
theorem payloadOf_3 (t : Int) (ht : t = 3) (w : World) : Calls Tryd.prog 48 #[.int .i64 t] w fun e w' => e = .returned (.agg #[.func (.func 77) #[] #[], .func (.func 78) #[] #[]]) ∧ Below w.heap.size w w' := by
  subst ht
  have HB := Aside0.mk (Below.refl w.heap.size w)
  go_enter Tryd.func48, Tryd.ntmps48
  go_wp2_with fail
  exact bodyPost_ret (v := .agg #[.func (.func 77) #[] #[], .func (.func 78) #[] #[]]) (by simp [results, Tryd.results48, go_sem]) rfl ⟨rfl, below_alloc HB.out _⟩
theorem payloadOf_4 (t : Int) (ht : t = 4) (w : World) : Calls Tryd.prog 48 #[.int .i64 t] w fun e w' => e = .returned (.agg #[.func (.func 79) #[] #[], .func (.func 80) #[] #[]]) ∧ Below w.heap.size w w' := by
  subst ht
  have HB := Aside0.mk (Below.refl w.heap.size w)
  go_enter Tryd.func48, Tryd.ntmps48
  go_wp2_with fail
  exact bodyPost_ret (v := .agg #[.func (.func 79) #[] #[], .func (.func 80) #[] #[]]) (by simp [results, Tryd.results48, go_sem]) rfl ⟨rfl, below_alloc HB.out _⟩
theorem payloadOf_5 (t : Int) (ht : t = 5) (w : World) : Calls Tryd.prog 48 #[.int .i64 t] w fun e w' => e = .returned (.agg #[.func (.func 81) #[] #[], .func (.func 82) #[] #[]]) ∧ Below w.heap.size w w' := by
  subst ht
  have HB := Aside0.mk (Below.refl w.heap.size w)
  go_enter Tryd.func48, Tryd.ntmps48
  go_wp2_with fail
  exact bodyPost_ret (v := .agg #[.func (.func 81) #[] #[], .func (.func 82) #[] #[]]) (by simp [results, Tryd.results48, go_sem]) rfl ⟨rfl, below_alloc HB.out _⟩
theorem payloadOf_6 (t : Int) (ht : t = 6) (w : World) : Calls Tryd.prog 48 #[.int .i64 t] w fun e w' => e = .returned (.agg #[.func (.func 83) #[] #[], .func (.func 84) #[] #[]]) ∧ Below w.heap.size w w' := by
  subst ht
  have HB := Aside0.mk (Below.refl w.heap.size w)
  go_enter Tryd.func48, Tryd.ntmps48
  go_wp2_with fail
  exact bodyPost_ret (v := .agg #[.func (.func 83) #[] #[], .func (.func 84) #[] #[]]) (by simp [results, Tryd.results48, go_sem]) rfl ⟨rfl, below_alloc HB.out _⟩
theorem payloadOf_7 (t : Int) (ht : t = 7) (w : World) : Calls Tryd.prog 48 #[.int .i64 t] w fun e w' => e = .returned (.agg #[.func (.func 85) #[] #[], .func (.func 86) #[] #[]]) ∧ Below w.heap.size w w' := by
  subst ht
  have HB := Aside0.mk (Below.refl w.heap.size w)
  go_enter Tryd.func48, Tryd.ntmps48
  go_wp2_with fail
  exact bodyPost_ret (v := .agg #[.func (.func 85) #[] #[], .func (.func 86) #[] #[]]) (by simp [results, Tryd.results48, go_sem]) rfl ⟨rfl, below_alloc HB.out _⟩
theorem payloadOf_8 (t : Int) (ht : t = 8) (w : World) : Calls Tryd.prog 48 #[.int .i64 t] w fun e w' => e = .returned (.agg #[.func (.func 87) #[] #[], .func (.func 88) #[] #[]]) ∧ Below w.heap.size w w' := by
  subst ht
  have HB := Aside0.mk (Below.refl w.heap.size w)
  go_enter Tryd.func48, Tryd.ntmps48
  go_wp2_with fail
  exact bodyPost_ret (v := .agg #[.func (.func 87) #[] #[], .func (.func 88) #[] #[]]) (by simp [results, Tryd.results48, go_sem]) rfl ⟨rfl, below_alloc HB.out _⟩
theorem payloadOf_else (t : Int) (ht : t < 1 ∨ 8 < t) (w : World) : Calls Tryd.prog 48 #[.int .i64 t] w fun e w' => e = .returned (.agg #[.func (.func 83) #[] #[], .func (.func 89) #[] #[]]) ∧ Below w.heap.size w w' := by
  have HB := Aside0.mk (Below.refl w.heap.size w)
  have t1 : (t == 1) = false := beq_eq_false_iff_ne.mpr (by omega)
  have t2 : (t == 2) = false := beq_eq_false_iff_ne.mpr (by omega)
  have t3 : (t == 3) = false := beq_eq_false_iff_ne.mpr (by omega)
  have t4 : (t == 4) = false := beq_eq_false_iff_ne.mpr (by omega)
  have t5 : (t == 5) = false := beq_eq_false_iff_ne.mpr (by omega)
  have t6 : (t == 6) = false := beq_eq_false_iff_ne.mpr (by omega)
  have t7 : (t == 7) = false := beq_eq_false_iff_ne.mpr (by omega)
  have t8 : (t == 8) = false := beq_eq_false_iff_ne.mpr (by omega)
  clear ht
  go_enter Tryd.func48, Tryd.ntmps48
  go_wp2_with fail
  exact bodyPost_ret (v := .agg #[.func (.func 83) #[] #[], .func (.func 89) #[] #[]]) (by simp [results, Tryd.results48, go_sem]) rfl ⟨rfl, below_alloc HB.out _⟩
theorem fldF0 (a b : Value) (w : World) : (Instr.field 89 (.agg #[a, b]) 0).run Tryd.prog w = .ok a w := by kernel_rfl
theorem fldF1 (a b : Value) (w : World) : (Instr.field 89 (.agg #[a, b]) 1).run Tryd.prog w = .ok b w := by kernel_rfl
end Go.Proofs.YtoffhlbdfhhhjaaDoor.Fr
namespace Go.Proofs.YtoffhlbdfhhhjaaDoor.Fr
open Go Go.RowKit Go.Proofs.YtoffhlbdfhhhjaaDoorW.PrintWords Go.Proofs.YtoffhlbdfhhhjaaDoorW.PrintLast Go.Proofs.YtoffhlbdfhhhjaaDoorW.PrintMore Go.Proofs.YtoffhlbdfhhhjaaDoor.QL
set_option linter.unusedSimpArgs false
set_option linter.unusedVariables false
set_option maxHeartbeats 4000000
set_option maxRecDepth 100000
/-- The number that bytes are, behind v. -/
def numFrom (v : Int) : List UInt8 → Int
  | [] => v
  | x :: t => numFrom (v * 256 + (x.toNat : Int)) t
def num (s : ByteArray) : Int := numFrom 0 s.data.toList
theorem bt_list (s : ByteArray) (i : Nat) (h : i < s.size) : bt s (i : Int) = ((s.data.toList[i]'(by simpa using h)).toNat : Int) := by
  have e := bt_at s (i : Int) (by simpa using h)
  rw [← e]
  rfl
theorem drop_at (s : ByteArray) (i : Nat) (h : i < s.size) (v : Int) : numFrom v (s.data.toList.drop i) = numFrom (v * 256 + bt s (i : Int)) (s.data.toList.drop (i + 1)) := by
  rw [bt_list s i h, List.drop_eq_getElem_cons (by simpa using h)]
  rfl
theorem numFrom_bd (l : List UInt8) : ∀ v : Int, 0 ≤ v → 0 ≤ numFrom v l ∧ numFrom v l < (v + 1) * 256 ^ l.length := by
  induction l with
  | nil => intro v h; exact ⟨h, by simp only [numFrom, List.length_nil]; omega⟩
  | cons x t ih =>
    intro v h
    have hx := x.toNat_lt
    have hx' : (x.toNat : Int) < 256 := by exact_mod_cast hx
    have hb : 0 ≤ v * 256 + (x.toNat : Int) := by omega
    obtain ⟨h1, h2⟩ := ih _ hb
    refine ⟨h1, Int.lt_of_lt_of_le h2 ?_⟩
    have hp : (0 : Int) ≤ 256 ^ t.length := Int.le_of_lt (Int.pow_pos (by decide))
    rw [List.length_cons, Int.pow_succ, Int.mul_comm ((256 : Int) ^ t.length) 256, ← Int.mul_assoc]
    exact Int.mul_le_mul_of_nonneg_right (by omega) hp
theorem num_bd (s : ByteArray) : 0 ≤ num s ∧ num s < 256 ^ s.size := by
  have h := numFrom_bd s.data.toList 0 (Int.le_refl _)
  have e : s.data.toList.length = s.size := rfl
  rw [e] at h
  simpa [num] using h
theorem num4 (s : ByteArray) (h : s.size ≤ 4) : 0 ≤ num s ∧ num s ≤ 4294967295 := by
  have h1 := num_bd s
  refine ⟨h1.1, ?_⟩
  obtain e | e | e | e | e : s.size = 0 ∨ s.size = 1 ∨ s.size = 2 ∨ s.size = 3 ∨ s.size = 4 := by omega
  all_goals
    rw [e] at h1
    omega
theorem or_byte (v x : Int) (h0 : 0 ≤ v) (h1 : v < 4294967296) (hx0 : 0 ≤ x) (hx1 : x ≤ 255) : Go.bits .or .i64 (wrap64 (v * 256)) (wrap64 x) = v * 256 + x := by
  have e1 : wrap64 (v * 256) = v * 256 := by unfold wrap64; omega
  have e2 : wrap64 x = x := by unfold wrap64; omega
  rw [e1, e2]
  exact bits_join .i64 63 (by decide) (fun n a b => IntWalk.i64_in n (by omega)) 8 (v * 256) x (by omega) (by omega) (by omega) hx0 (by omega) (by omega)
theorem got_loop (s : ByteArray) (hs : s.size ≤ 4) : ∀ (m i : Nat) (v : Int), i + m = s.size → 0 ≤ v → v < 256 ^ i → frame_got.l0 (m + 1) s v (s.size : Int) (i : Int) = some (numFrom v (s.data.toList.drop i)) := by
  intro m
  induction m with
  | zero =>
    intro i v hi h0 h1
    rw [frame_got.l0, if_neg (by omega), List.drop_eq_nil_of_le (by show s.data.toList.length ≤ i; have : s.data.toList.length = s.size := rfl; omega)]
    rfl
  | succ m ih =>
    intro i v hi h0 h1
    have hb := bt_range s (i : Int)
    have hv : v < 4294967296 := by
      obtain e | e | e | e : i = 0 ∨ i = 1 ∨ i = 2 ∨ i = 3 := by omega
      all_goals rw [e] at h1; omega
    have hw : wrap64 ((i : Int) + 1) = ((i + 1 : Nat) : Int) := by unfold wrap64; omega
    rw [frame_got.l0, if_pos (by omega), if_pos (by omega), if_pos (by omega), or_byte v _ h0 hv hb.1 hb.2, hw, drop_at s i (by omega) v]
    refine ih (i + 1) _ (by omega) (by omega) ?_
    rw [Int.pow_succ]
    omega
theorem get_loop (s : ByteArray) (hs : s.size ≤ 4) : ∀ (m i : Nat) (v : Int), i + m = s.size → 0 ≤ v → v < 256 ^ i → heraldref06_get.l0 (m + 1) s v (i : Int) = some (numFrom v (s.data.toList.drop i)) := by
  intro m
  induction m with
  | zero =>
    intro i v hi h0 h1
    rw [heraldref06_get.l0, if_neg (by omega), List.drop_eq_nil_of_le (by show s.data.toList.length ≤ i; have : s.data.toList.length = s.size := rfl; omega)]
    rfl
  | succ m ih =>
    intro i v hi h0 h1
    have hb := bt_range s (i : Int)
    have hv : v < 4294967296 := by
      obtain e | e | e | e : i = 0 ∨ i = 1 ∨ i = 2 ∨ i = 3 := by omega
      all_goals rw [e] at h1; omega
    have hw : wrap64 ((i : Int) + 1) = ((i + 1 : Nat) : Int) := by unfold wrap64; omega
    have hx : wrap64 (wrap64 (256 * v) + wrap64 (bt s (i : Int))) = v * 256 + bt s (i : Int) := by unfold wrap64; omega
    rw [heraldref06_get.l0, if_pos (by omega), if_pos (by omega), hx, hw, drop_at s i (by omega) v]
    refine ih (i + 1) _ (by omega) (by omega) ?_
    rw [Int.pow_succ]
    omega
theorem got_f (s : ByteArray) (hs : s.size ≤ 4) : frame_got.f (s.size + 1) s = some (num s) := by
  have h := got_loop s hs s.size 0 0 (by omega) (by omega) (by decide)
  unfold frame_got.f
  exact h
theorem get_f (s : ByteArray) (hs : s.size ≤ 4) : heraldref06_get.f (s.size + 1) s = some (num s) := by
  have h := get_loop s hs s.size 0 0 (by omega) (by omega) (by decide)
  unfold heraldref06_get.f
  exact h
theorem got_calls (s : ByteArray) (x : Int) (w : World) (hs : s.size ≤ 4) (hx : num s = x) : Calls Tryd.prog 56 #[.string s] w fun e w' => e = .returned (.int .i64 x) ∧ ∃ n, w' = w.drewN n := by
  subst hx
  exact (frame_got.calls _ s _ w (got_f s hs)).mono fun _ _ h => ⟨h.1, h.2.out⟩
theorem id_calls (s : ByteArray) (x : Int) (w : World) (hs : s.size ≤ 4) (hx : num s % 2147483648 = x) : Calls Tryd.prog 57 #[.string s] w fun e w' => e = .returned (.int .i64 x) ∧ ∃ n, w' = w.drewN n := by
  subst hx
  refine (frame_id.calls (s.size + 1) s _ w ?_).mono fun _ _ h => ⟨h.1, h.2.out⟩
  have hb := num4 s hs
  unfold frame_id.f
  rw [got_f s hs]
  show some (Go.bits .and .i64 (num s) 2147483647) = _
  rw [show (2147483647 : Int) = 2 ^ 31 - 1 from by decide, bits_mask .i64 63 (by decide) (fun n a b => IntWalk.i64_in n (by omega)) 31 (by decide) (num s) hb.1 (by omega)]
  rfl
theorem getR_calls (s : ByteArray) (x : Int) (w : World) (hs : s.size ≤ 4) (hx : num s = x) : Calls Tryd.prog 61 #[.string s] w fun e w' => e = .returned (.int .i64 x) ∧ ∃ n, w' = w.drewN n := by
  subst hx
  exact (heraldref06_get.calls _ s _ w (get_f s hs)).mono fun _ _ h => ⟨h.1, h.2.out⟩
theorem idR_calls (s : ByteArray) (x : Int) (w : World) (hs : s.size ≤ 4) (hx : num s % 2147483648 = x) : Calls Tryd.prog 62 #[.string s] w fun e w' => e = .returned (.int .i64 x) ∧ ∃ n, w' = w.drewN n := by
  subst hx
  refine (heraldref06_id.calls (s.size + 1) s _ w ?_).mono fun _ _ h => ⟨h.1, h.2.out⟩
  have hb := num4 s hs
  unfold heraldref06_id.f
  rw [get_f s hs]
  show some (Int.tmod (num s) 2147483648) = _
  rw [Int.tmod_eq_emod_of_nonneg hb.1]
theorem got_below (s : ByteArray) (x : Int) (w : World) (hs : s.size ≤ 4) (hx : num s = x) : Calls Tryd.prog 56 #[.string s] w fun e w' => e = .returned (.int .i64 x) ∧ Below w.heap.size w w' :=
  (got_calls s x w hs hx).mono fun _ _ h => ⟨h.1, by obtain ⟨n, hn⟩ := h.2; rw [hn]; exact pw_below_drewN (Below.refl _ _) n⟩
theorem id_below (s : ByteArray) (x : Int) (w : World) (hs : s.size ≤ 4) (hx : num s % 2147483648 = x) : Calls Tryd.prog 57 #[.string s] w fun e w' => e = .returned (.int .i64 x) ∧ Below w.heap.size w w' :=
  (id_calls s x w hs hx).mono fun _ _ h => ⟨h.1, by obtain ⟨n, hn⟩ := h.2; rw [hn]; exact pw_below_drewN (Below.refl _ _) n⟩
theorem getR_below (s : ByteArray) (x : Int) (w : World) (hs : s.size ≤ 4) (hx : num s = x) : Calls Tryd.prog 61 #[.string s] w fun e w' => e = .returned (.int .i64 x) ∧ Below w.heap.size w w' :=
  (getR_calls s x w hs hx).mono fun _ _ h => ⟨h.1, by obtain ⟨n, hn⟩ := h.2; rw [hn]; exact pw_below_drewN (Below.refl _ _) n⟩
theorem idR_below (s : ByteArray) (x : Int) (w : World) (hs : s.size ≤ 4) (hx : num s % 2147483648 = x) : Calls Tryd.prog 62 #[.string s] w fun e w' => e = .returned (.int .i64 x) ∧ Below w.heap.size w w' :=
  (idR_calls s x w hs hx).mono fun _ _ h => ⟨h.1, by obtain ⟨n, hn⟩ := h.2; rw [hn]; exact pw_below_drewN (Below.refl _ _) n⟩
end Go.Proofs.YtoffhlbdfhhhjaaDoor.Fr
namespace Go.Proofs.YtoffhlbdfhhhjaaDoor.Fr
open Go Go.RowKit Go.Proofs.YtoffhlbdfhhhjaaDoorW.PrintWords Go.Proofs.YtoffhlbdfhhhjaaDoorW.PrintLast Go.Proofs.YtoffhlbdfhhhjaaDoorW.PrintMore Go.Proofs.YtoffhlbdfhhhjaaDoor.QL
set_option linter.unusedSimpArgs false
set_option linter.unusedVariables false
set_option maxHeartbeats 40000000
set_option maxRecDepth 100000
/-- While a frame is read: it lies at g, a block of the call's own. -/
structure TInv (w0 w : World) (g : Nat) (f : Fr) (A : Option Addr) (c : Nat) : Prop where
  own : At w g f A c
  low : Below w0.heap.size w0 w
  ge : w0.heap.size ≤ g
theorem TInv.below {w0 w w1 : World} {g : Nat} {f : Fr} {A : Option Addr} {c : Nat} (r : TInv w0 w g f A c) (hb : Below w.heap.size w w1) : TInv w0 w1 g f A c := ⟨r.own.low hb, below_then r.low r.low.size hb, r.ge⟩
theorem TInv.drewN {w0 w : World} {g : Nat} {f : Fr} {A : Option Addr} {c : Nat} (r : TInv w0 w g f A c) (n : Nat) : TInv w0 (w.drewN n) g f A c := r.below (pw_below_drewN (Below.refl _ _) n)
theorem TInv.put1 {w0 w : World} {g : Nat} {f : Fr} {A : Option Addr} {c : Nat} (r : TInv w0 w g f A c) (x : Int) : TInv w0 (w.setCell ⟨g, 1, none⟩ (.int .i64 x)) g { f with fl := x } A c :=
  ⟨by have hb := blk_set r.own 1 (.int .i64 x); simpa [At, Fr.cells] using hb, r.low.setCell (p := ⟨g, 1, none⟩) r.ge _, r.ge⟩
theorem TInv.put3 {w0 w : World} {g : Nat} {f : Fr} {A : Option Addr} {c : Nat} (r : TInv w0 w g f A c) (x : ByteArray) : TInv w0 (w.setCell ⟨g, 3, none⟩ (.string x)) g { f with da := x } A c :=
  ⟨by have hb := blk_set r.own 3 (.string x); simpa [At, Fr.cells] using hb, r.low.setCell (p := ⟨g, 3, none⟩) r.ge _, r.ge⟩
theorem TInv.put4 {w0 w : World} {g : Nat} {f : Fr} {A : Option Addr} {c : Nat} (r : TInv w0 w g f A c) (x : Int) : TInv w0 (w.setCell ⟨g, 4, none⟩ (.int .i64 x)) g { f with pad := x } A c :=
  ⟨by have hb := blk_set r.own 4 (.int .i64 x); simpa [At, Fr.cells] using hb, r.low.setCell (p := ⟨g, 4, none⟩) r.ge _, r.ge⟩
theorem TInv.put5 {w0 w : World} {g : Nat} {f : Fr} {A : Option Addr} {c : Nat} (r : TInv w0 w g f A c) (x : Int) : TInv w0 (w.setCell ⟨g, 5, none⟩ (.int .i64 x)) g { f with dep := x } A c :=
  ⟨by have hb := blk_set r.own 5 (.int .i64 x); simpa [At, Fr.cells] using hb, r.low.setCell (p := ⟨g, 5, none⟩) r.ge _, r.ge⟩
theorem TInv.put6 {w0 w : World} {g : Nat} {f : Fr} {A : Option Addr} {c : Nat} (r : TInv w0 w g f A c) (x : Bool) : TInv w0 (w.setCell ⟨g, 6, none⟩ (.bool x)) g { f with ex := x } A c :=
  ⟨by have hb := blk_set r.own 6 (.bool x); simpa [At, Fr.cells] using hb, r.low.setCell (p := ⟨g, 6, none⟩) r.ge _, r.ge⟩
theorem TInv.put7 {w0 w : World} {g : Nat} {f : Fr} {A : Option Addr} {c : Nat} (r : TInv w0 w g f A c) (x : Int) : TInv w0 (w.setCell ⟨g, 7, none⟩ (.int .i64 x)) g { f with wt := x } A c :=
  ⟨by have hb := blk_set r.own 7 (.int .i64 x); simpa [At, Fr.cells] using hb, r.low.setCell (p := ⟨g, 7, none⟩) r.ge _, r.ge⟩
theorem TInv.put8 {w0 w : World} {g : Nat} {f : Fr} {A : Option Addr} {c : Nat} (r : TInv w0 w g f A c) (x : Int) : TInv w0 (w.setCell ⟨g, 8, none⟩ (.int .i64 x)) g { f with co := x } A c :=
  ⟨by have hb := blk_set r.own 8 (.int .i64 x); simpa [At, Fr.cells] using hb, r.low.setCell (p := ⟨g, 8, none⟩) r.ge _, r.ge⟩
theorem TInv.put9 {w0 w : World} {g : Nat} {f : Fr} {A : Option Addr} {c : Nat} (r : TInv w0 w g f A c) (x : Int) : TInv w0 (w.setCell ⟨g, 9, none⟩ (.int .i64 x)) g { f with la := x } A c :=
  ⟨by have hb := blk_set r.own 9 (.int .i64 x); simpa [At, Fr.cells] using hb, r.low.setCell (p := ⟨g, 9, none⟩) r.ge _, r.ge⟩
theorem takeWeight_calls (g : Nat) (f : Fr) (A : Option Addr) (c : Nat) (p : ByteArray) (x : Int) (w0 w : World) (hf : At w g f A c) (hlow : Below w0.heap.size w0 w) (hge : w0.heap.size ≤ g) (hp : 5 ≤ p.size) (hx : num (p.extract 0 4) % 2147483648 = x) :
    Calls Tryd.prog 102 #[.pointer (some ⟨g, 0, none⟩), .string p] w fun e w' => e = .returned (.tuple #[]) ∧ TInv w0 w' g { f with dep := x, ex := decide (128 ≤ bt p 0), wt := bt p 4 + 1 } A c := by
  have HX := Aside0.mk hx
  have HSZ : Aside0 ((p.extract 0 4).size ≤ 4) := ⟨by simp; omega⟩
  have hT := Aside0.mk (TInv.mk hf hlow hge)
  have b0 : (4 : Int) ≤ (p.size : Int) := by omega
  have b1 : (0 : Int) < (p.size : Int) := by omega
  have b2 : (4 : Int) < (p.size : Int) := by omega
  have n1 : 0 < p.size := by omega
  have n2 : 4 < p.size := by omega
  clear hx
  go_enter Tryd.func102, Tryd.ntmps102
  go_upto_region 0 with fail
  refine start_ (n := 22) (S := fun w' => ∃ h', TInv w0 w' g h' A c) (ds := [21]) #[false, false, false, false, false, false, false, false, false, false, false, false, false, false, false, false, false, false, false, false, false, false] (by kernel_rfl) rfl rfl (⟨_, (TInv.mk hf hlow hge).below (below_drew (Below.refl _ _))⟩) (fun hHeld => ?_)
  refine pure_ (i := 0) (N := some 4) (v := ?_) (a' := ?_) #[true, false, false, false, false, false, false, false, false, false, false, false, false, false, false, false, false, false, false, false, false, false] rfl rfl (by kernel_rfl) (fun _ _ _ h => h) (Or.inl ⟨by rfl, ?_⟩) ?_ ?_
  rotate_left
  · intro w'
    go_simp
    with_reducible rfl
  rotate_left
  · simp only [Act.put, List.setIfInBounds_toArray, List.set_cons_zero, List.set_cons_succ, i64_w, i32_w]
    rfl
  refine pure_ (i := 1) (N := some 5) (v := ?_) (a' := ?_) #[true, true, false, false, false, false, false, false, false, false, false, false, false, false, false, false, false, false, false, false, false, false] rfl rfl (by kernel_rfl) (fun _ _ _ h => h) (Or.inl ⟨by rfl, ?_⟩) ?_ ?_
  rotate_left
  · intro w'
    go_simp
    with_reducible rfl
  rotate_left
  · simp only [Act.put, List.setIfInBounds_toArray, List.set_cons_zero, List.set_cons_succ, i64_w, i32_w]
    rfl
  refine pure_ (i := 2) (N := some 6) (v := ?_) (a' := ?_) #[true, true, true, false, false, false, false, false, false, false, false, false, false, false, false, false, false, false, false, false, false, false] rfl rfl (by kernel_rfl) (fun _ _ _ h => h) (Or.inl ⟨by rfl, ?_⟩) ?_ ?_
  rotate_left
  · intro w'
    go_simp
    with_reducible rfl
  rotate_left
  · simp only [Act.put, List.setIfInBounds_toArray, List.set_cons_zero, List.set_cons_succ, i64_w, i32_w]
    rfl
  refine pure_ (i := 3) (N := some 7) (v := ?_) (a' := ?_) #[true, true, true, true, false, false, false, false, false, false, false, false, false, false, false, false, false, false, false, false, false, false] rfl rfl (by kernel_rfl) (fun _ _ _ h => h) (Or.inl ⟨by rfl, ?_⟩) ?_ ?_
  rotate_left
  · intro w'
    go_simp
    with_reducible rfl
  rotate_left
  · simp only [Act.put, List.setIfInBounds_toArray, List.set_cons_zero, List.set_cons_succ, i64_w, i32_w]
    rfl
  refine pure_ (i := 4) (N := some 8) (v := ?_) (a' := ?_) #[true, true, true, true, true, false, false, false, false, false, false, false, false, false, false, false, false, false, false, false, false, false] rfl rfl (by kernel_rfl) (fun _ _ _ h => h) (Or.inl ⟨by rfl, ?_⟩) ?_ ?_
  rotate_left
  · intro w'
    go_simp
    with_reducible rfl
  rotate_left
  · simp only [Act.put, List.setIfInBounds_toArray, List.set_cons_zero, List.set_cons_succ, i64_w, i32_w]
    rfl
  refine pure_ (i := 6) (N := some 10) (v := ?_) (a' := ?_) #[true, true, true, true, true, false, true, false, false, false, false, false, false, false, false, false, false, false, false, false, false, false] rfl rfl (by kernel_rfl) (fun _ _ _ h => h) (Or.inl ⟨by rfl, ?_⟩) ?_ ?_
  rotate_left
  · intro w'
    go_simp
    with_reducible rfl
  rotate_left
  · simp only [Act.put, List.setIfInBounds_toArray, List.set_cons_zero, List.set_cons_succ, i64_w, i32_w]
    rfl
  refine pure_ (i := 9) (N := some 13) (v := ?_) (a' := ?_) #[true, true, true, true, true, false, true, false, false, true, false, false, false, false, false, false, false, false, false, false, false, false] rfl rfl (by kernel_rfl) (fun _ _ _ h => h) (Or.inl ⟨by rfl, ?_⟩) ?_ ?_
  rotate_left
  · intro w'
    go_simp
    with_reducible rfl
  rotate_left
  · simp only [Act.put, List.setIfInBounds_toArray, List.set_cons_zero, List.set_cons_succ, i64_w, i32_w]
    rfl
  refine take_ (i := 7) (N := some 11) (v := ?_) (a' := ?_) #[true, true, true, true, true, false, true, true, false, true, false, false, false, false, false, false, false, false, false, false, false, false] rfl rfl (by kernel_rfl) (fun _ _ _ h => h) (Or.inl ⟨by rfl, ?_⟩) hHeld ?_ ?_
  rotate_left
  · intro w' s0
    go_simp
    with_reducible rfl
  rotate_left
  · simp only [Act.put, List.setIfInBounds_toArray, List.set_cons_zero, List.set_cons_succ, i64_w, i32_w]
    rfl
  refine pure_ (i := 8) (N := some 12) (v := ?_) (a' := ?_) #[true, true, true, true, true, false, true, true, true, true, false, false, false, false, false, false, false, false, false, false, false, false] rfl rfl (by kernel_rfl) (fun _ _ _ h => h) (Or.inl ⟨by rfl, ?_⟩) ?_ ?_
  rotate_left
  · intro w'
    go_simp
    with_reducible rfl
  rotate_left
  · simp only [Act.put, List.setIfInBounds_toArray, List.set_cons_zero, List.set_cons_succ, i64_w, i32_w]
    rfl
  refine take_ (i := 10) (N := some 14) (v := ?_) (a' := ?_) #[true, true, true, true, true, false, true, true, true, true, true, false, false, false, false, false, false, false, false, false, false, false] rfl rfl (by kernel_rfl) (fun _ _ _ h => h) (Or.inl ⟨by rfl, ?_⟩) hHeld ?_ ?_
  rotate_left
  · intro w' s0
    go_simp
    with_reducible rfl
  rotate_left
  · simp only [Act.put, List.setIfInBounds_toArray, List.set_cons_zero, List.set_cons_succ, i64_w, i32_w]
    rfl
  refine pure_ (i := 11) (N := some 15) (v := ?_) (a' := ?_) #[true, true, true, true, true, false, true, true, true, true, true, true, false, false, false, false, false, false, false, false, false, false] rfl rfl (by kernel_rfl) (fun _ _ _ h => h) (Or.inl ⟨by rfl, ?_⟩) ?_ ?_
  rotate_left
  · intro w'
    go_simp
    with_reducible rfl
  rotate_left
  · simp only [Act.put, List.setIfInBounds_toArray, List.set_cons_zero, List.set_cons_succ, i64_w, i32_w]
    rfl
  refine pure_ (i := 12) (N := some 16) (v := ?_) (a' := ?_) #[true, true, true, true, true, false, true, true, true, true, true, true, true, false, false, false, false, false, false, false, false, false] rfl rfl (by kernel_rfl) (fun _ _ _ h => h) (Or.inl ⟨by rfl, ?_⟩) ?_ ?_
  rotate_left
  · intro w'
    go_simp
    with_reducible rfl
  rotate_left
  · simp only [Act.put, List.setIfInBounds_toArray, List.set_cons_zero, List.set_cons_succ, i64_w, i32_w]
    rfl
  refine one_ (i := 5) (N := some 9) #[true, true, true, true, true, true, true, true, true, true, true, true, true, false, false, false, false, false, false, false, false, false] rfl rfl (by kernel_rfl) (by decide) (fun K hK => ?_)
  refine goes_ Tryd.func57 (by kernel_rfl) rfl #[.string (p.extract 0 4)] (by rfl) rfl rfl (by simp only [List.map_toArray, List.map_cons, List.map_nil]; rfl) ?_
  with_reducible refine (id_below (p.extract 0 4) x _ HSZ.out HX.out).mono ?_
  rintro e w3 ⟨rfl, hb⟩
  refine ⟨_, rfl, ?_⟩
  have T3 := Aside0.mk ((hT.out.below (below_drew (Below.refl _ _))).below hb)
  refine hK.out _ _ ((hHeld.imp fun _ h => h.below hb)) (fun hHeld => ?_)
  clear hK K
  refine norm_ (a' := ?_) ?_ ?_
  rotate_left
  · show Act.put _ (some 9) _ = _
    simp only [Act.put, List.setIfInBounds_toArray, List.set_cons_zero, List.set_cons_succ, i64_w, i32_w]
    rfl
  refine pure_ (i := 13) (N := some 17) (v := ?_) (a' := ?_) #[true, true, true, true, true, true, true, true, true, true, true, true, true, true, false, false, false, false, false, false, false, false] rfl rfl (by kernel_rfl) (fun _ _ _ h => h) (Or.inl ⟨by rfl, ?_⟩) ?_ ?_
  rotate_left
  · intro w'
    go_simp
    with_reducible rfl
  rotate_left
  · simp only [Act.put, List.setIfInBounds_toArray, List.set_cons_zero, List.set_cons_succ, i64_w, i32_w]
    rfl
  refine pure_ (i := 14) (N := some 18) (v := ?_) (a' := ?_) #[true, true, true, true, true, true, true, true, true, true, true, true, true, true, true, false, false, false, false, false, false, false] rfl rfl (by kernel_rfl) (fun _ _ _ h => h) (Or.inl ⟨by rfl, ?_⟩) ?_ ?_
  rotate_left
  · intro w'
    go_simp
    with_reducible rfl
  rotate_left
  · simp only [Act.put, List.setIfInBounds_toArray, List.set_cons_zero, List.set_cons_succ, i64_w, i32_w]
    rfl
  refine one_ (i := 15) (N := none) #[true, true, true, true, true, true, true, true, true, true, true, true, true, true, true, true, false, false, false, false, false, false] rfl rfl (by kernel_rfl) (by decide) (fun K hK => ?_)
  obtain ⟨h1, r1⟩ := hHeld
  have y1 := r1.own.c5
  have yf1 := blk_frozen r1.own 5
  refine skip_ (w1 := ?_) (by rfl) rfl ?_ ?_
  rotate_left
  · go_simp
    rfl
  clear y1 yf1
  refine hK.out _ _ (⟨_, r1.put5 _⟩) (fun hHeld => ?_)
  clear hK K
  refine pure_ (i := 16) (N := some 19) (v := ?_) (a' := ?_) #[true, true, true, true, true, true, true, true, true, true, true, true, true, true, true, true, true, false, false, false, false, false] rfl rfl (by kernel_rfl) (fun _ _ _ h => h) (Or.inl ⟨by rfl, ?_⟩) ?_ ?_
  rotate_left
  · intro w'
    go_simp
    with_reducible rfl
  rotate_left
  · simp only [Act.put, List.setIfInBounds_toArray, List.set_cons_zero, List.set_cons_succ, i64_w, i32_w]
    rfl
  refine pure_ (i := 17) (N := some 20) (v := ?_) (a' := ?_) #[true, true, true, true, true, true, true, true, true, true, true, true, true, true, true, true, true, true, false, false, false, false] rfl rfl (by kernel_rfl) (fun _ _ _ h => h) (Or.inl ⟨by rfl, ?_⟩) ?_ ?_
  rotate_left
  · intro w'
    go_simp
    with_reducible rfl
  rotate_left
  · simp only [Act.put, List.setIfInBounds_toArray, List.set_cons_zero, List.set_cons_succ, i64_w, i32_w]
    rfl
  refine one_ (i := 18) (N := none) #[true, true, true, true, true, true, true, true, true, true, true, true, true, true, true, true, true, true, true, false, false, false] rfl rfl (by kernel_rfl) (by decide) (fun K hK => ?_)
  obtain ⟨h1, r1⟩ := hHeld
  have y1 := r1.own.c6
  have yf1 := blk_frozen r1.own 6
  refine skip_ (w1 := ?_) (by rfl) rfl ?_ ?_
  rotate_left
  · go_simp
    rfl
  clear y1 yf1
  refine hK.out _ _ (⟨_, r1.put6 _⟩) (fun hHeld => ?_)
  clear hK K
  refine pure_ (i := 19) (N := some 21) (v := ?_) (a' := ?_) #[true, true, true, true, true, true, true, true, true, true, true, true, true, true, true, true, true, true, true, true, false, false] rfl rfl (by kernel_rfl) (fun _ _ _ h => h) (Or.inl ⟨by rfl, ?_⟩) ?_ ?_
  rotate_left
  · intro w'
    go_simp
    with_reducible rfl
  rotate_left
  · simp only [Act.put, List.setIfInBounds_toArray, List.set_cons_zero, List.set_cons_succ, i64_w, i32_w]
    rfl
  refine pure_ (i := 20) (N := some 22) (v := ?_) (a' := ?_) #[true, true, true, true, true, true, true, true, true, true, true, true, true, true, true, true, true, true, true, true, true, false] rfl rfl (by kernel_rfl) (fun _ _ _ h => h) (Or.inl ⟨by rfl, ?_⟩) ?_ ?_
  rotate_left
  · intro w'
    go_simp
    with_reducible rfl
  rotate_left
  · simp only [Act.put, List.setIfInBounds_toArray, List.set_cons_zero, List.set_cons_succ, i64_w, i32_w]
    rfl
  refine last_ (i := 21) (N := none) #[true, true, true, true, true, true, true, true, true, true, true, true, true, true, true, true, true, true, true, true, true, true] rfl rfl (by kernel_rfl) (by decide) (fun K hK => ?_)
  obtain ⟨h1, r1⟩ := hHeld
  have y1 := r1.own.c7
  have yf1 := blk_frozen r1.own 7
  refine skip_ (w1 := ?_) (by rfl) rfl ?_ ?_
  rotate_left
  · go_simp
    rfl
  clear y1 yf1 r1
  refine hK.out _ _ ?_
  clear hK K
  refine done_ (by kernel_rfl) ?_
  have e0 : ((p[0]'n1).toNat : Int) = bt p 0 := bt_at p 0 n1
  have e4 : ((p[4]'n2).toNat : Int) = bt p 4 := bt_at p 4 n2
  have r4 := bt_range p 4
  have e5 : wrap64 (wrap64 (bt p 4) + 1) = bt p 4 + 1 := by unfold wrap64; omega
  go_end0
  refine ⟨rfl, ?_⟩
  simp only [e0, e4, e5]
  exact ((T3.out.put5 x).put6 (decide (128 ≤ bt p 0))).put7 (bt p 4 + 1)
/-- What a priority says. -/
def wtF (f : Fr) (p : ByteArray) : Fr := { f with dep := num (p.extract 0 4) % 2147483648, ex := decide (128 ≤ bt p 0), wt := bt p 4 + 1 }
def headersF (f : Fr) (p : ByteArray) : Fr := if has f.fl 32 = true then { wtF f p with da := p.extract 5 p.size } else { f with da := p }
def promiseF (f : Fr) (p : ByteArray) : Fr := { f with la := num (p.extract 0 4) % 2147483648, da := p.extract 4 p.size }
def goAwayF (f : Fr) (p : ByteArray) : Fr := { f with la := num (p.extract 0 4) % 2147483648, co := num (p.extract 4 8), da := p.extract 8 p.size }
theorem ext4 (p : ByteArray) (i : Nat) : (p.extract i (i + 4)).size ≤ 4 := by simp; omega
theorem got_some (s : ByteArray) (hs : s.size ≤ 9223372036854775807) : ∀ (m i : Nat) (v : Int), i + m = s.size → ∃ x, frame_got.l0 (m + 1) s v (s.size : Int) (i : Int) = some x := by
  intro m
  induction m with
  | zero => intro i v hi; exact ⟨v, by rw [frame_got.l0, if_neg (by omega)]⟩
  | succ m ih =>
    intro i v hi
    have hw : wrap64 ((i : Int) + 1) = ((i + 1 : Nat) : Int) := by unfold wrap64; omega
    rw [frame_got.l0, if_pos (by omega), if_pos (by omega), if_pos (by omega), hw]
    exact ih (i + 1) _ (by omega)
theorem got_any (s : ByteArray) (w : World) (hs : s.size ≤ 9223372036854775807) : Calls Tryd.prog 56 #[.string s] w fun e w' => ∃ x, e = .returned (.int .i64 x) ∧ Below w.heap.size w w' := by
  obtain ⟨x, hx⟩ := got_some s hs s.size 0 0 (by omega)
  have h : frame_got.f (s.size + 1) s = some x := by unfold frame_got.f; exact hx
  exact (frame_got.calls _ s x w h).mono fun _ _ h => ⟨x, h.1, h.2.below⟩
theorem takeData_calls (g : Nat) (f : Fr) (A : Option Addr) (c : Nat) (p : ByteArray) (w0 w : World) (hf : At w g f A c) (hlow : Below w0.heap.size w0 w) (hge : w0.heap.size ≤ g)  :
    Calls Tryd.prog 89 #[.pointer (some ⟨g, 0, none⟩), .string p] w fun e w' => e = .returned (.bool true) ∧ TInv w0 w' g { f with da := p } A c := by
  have hT := Aside0.mk (TInv.mk hf hlow hge)
  have y3 := hf.c3
  have yf : w.frozen? ⟨g, 3, none⟩ = false := blk_frozen hf 3
  clear hf hlow hge
  go_enter Tryd.func89, Tryd.ntmps89
  go_wp2_with fail
  go_ret
  exact ⟨rfl, hT.out.put3 p⟩
theorem takePing_calls (g : Nat) (f : Fr) (A : Option Addr) (c : Nat) (p : ByteArray) (w0 w : World) (hf : At w g f A c) (hlow : Below w0.heap.size w0 w) (hge : w0.heap.size ≤ g) (x : Bool) (hx : ((p.size : Int) == 8) = x) (h63 : p.size ≤ 9223372036854775807) :
    Calls Tryd.prog 84 #[.pointer (some ⟨g, 0, none⟩), .string p] w fun e w' => e = .returned (.bool x) ∧ TInv w0 w' g { f with da := p } A c := by
  have hT := Aside0.mk (TInv.mk hf hlow hge)
  have y3 := hf.c3
  have yf : w.frozen? ⟨g, 3, none⟩ = false := blk_frozen hf 3
  clear hf hlow hge
  have HX := Aside0.mk hx
  clear hx
  go_enter Tryd.func84, Tryd.ntmps84
  go_wp2_with fail
  go_ret
  exact ⟨by rw [← HX.out]; rfl, hT.out.put3 p⟩
theorem takeReset_yes (g : Nat) (f : Fr) (A : Option Addr) (c : Nat) (p : ByteArray) (w0 w : World) (hf : At w g f A c) (hlow : Below w0.heap.size w0 w) (hge : w0.heap.size ≤ g) (hp : p.size = 4) :
    Calls Tryd.prog 78 #[.pointer (some ⟨g, 0, none⟩), .string p] w fun e w' => e = .returned (.bool true) ∧ TInv w0 w' g { f with co := num p } A c := by
  have hT := Aside0.mk (TInv.mk hf hlow hge)
  have hs : ((p.size : Int) == 4) = true := by rw [hp]; rfl
  have HSZ : Aside0 (p.size ≤ 4) := ⟨by omega⟩
  clear hf hlow hge hp
  go_enter Tryd.func78, Tryd.ntmps78
  go_wp2_with (go_at_call 56; refine (got_below p _ _ HSZ.out rfl).mono ?_; rintro e w3 ⟨rfl, hb⟩; have T3 := Aside0.mk (hT.out.below hb); have y8 := T3.out.own.c8; have yf : w3.frozen? ⟨g, 8, none⟩ = false := blk_frozen T3.out.own 8; clear hb)
  go_ret
  exact ⟨rfl, T3.out.put8 (num p)⟩
theorem takeReset_no (g : Nat) (f : Fr) (A : Option Addr) (c : Nat) (p : ByteArray) (w0 w : World) (hf : At w g f A c) (hlow : Below w0.heap.size w0 w) (hge : w0.heap.size ≤ g) (hp : p.size ≠ 4) (h63 : p.size ≤ 9223372036854775807) :
    Calls Tryd.prog 78 #[.pointer (some ⟨g, 0, none⟩), .string p] w fun e w' => e = .returned (.bool false) ∧ ∃ f', f'.ty = f.ty ∧ f'.st = f.st ∧ TInv w0 w' g f' A c := by
  have hT := Aside0.mk (TInv.mk hf hlow hge)
  have hs : ((p.size : Int) == 4) = false := beq_eq_false_iff_ne.mpr (by omega)
  have H63 := Aside0.mk h63
  clear hf hlow hge hp
  go_enter Tryd.func78, Tryd.ntmps78
  go_wp2_with (go_at_call 56; refine (got_any p _ H63.out).mono ?_; rintro e w3 ⟨x, rfl, hb⟩; have T3 := Aside0.mk (hT.out.below hb); have y8 := T3.out.own.c8; have yf : w3.frozen? ⟨g, 8, none⟩ = false := blk_frozen T3.out.own 8; clear hb)
  go_ret
  exact ⟨rfl, { f with co := x }, rfl, rfl, T3.out.put8 x⟩
theorem takeWindow_yes (g : Nat) (f : Fr) (A : Option Addr) (c : Nat) (p : ByteArray) (w0 w : World) (hf : At w g f A c) (hlow : Below w0.heap.size w0 w) (hge : w0.heap.size ≤ g) (hp : p.size = 4) :
    Calls Tryd.prog 88 #[.pointer (some ⟨g, 0, none⟩), .string p] w fun e w' => e = .returned (.bool true) ∧ TInv w0 w' g { f with la := num p % 2147483648 } A c := by
  have hT := Aside0.mk (TInv.mk hf hlow hge)
  have hs : ((p.size : Int) != 4) = false := by rw [hp]; rfl
  have HSZ : Aside0 (p.size ≤ 4) := ⟨by omega⟩
  clear hf hlow hge hp
  go_enter Tryd.func88, Tryd.ntmps88
  go_wp2_with (go_at_call 57; refine (id_below p _ _ HSZ.out rfl).mono ?_; rintro e w3 ⟨rfl, hb⟩; have T3 := Aside0.mk (hT.out.below hb); have y9 := T3.out.own.c9; have yf : w3.frozen? ⟨g, 9, none⟩ = false := blk_frozen T3.out.own 9; clear hb)
  go_ret
  exact ⟨rfl, T3.out.put9 (num p % 2147483648)⟩
theorem takeWindow_no (g : Nat) (f : Fr) (A : Option Addr) (c : Nat) (p : ByteArray) (w0 w : World) (hf : At w g f A c) (hlow : Below w0.heap.size w0 w) (hge : w0.heap.size ≤ g) (hp : p.size ≠ 4) :
    Calls Tryd.prog 88 #[.pointer (some ⟨g, 0, none⟩), .string p] w fun e w' => e = .returned (.bool false) ∧ TInv w0 w' g f A c := by
  have hT := Aside0.mk (TInv.mk hf hlow hge)
  have hs : ((p.size : Int) != 4) = true := bne_iff_ne.mpr (by omega)
  clear hf hlow hge hp
  go_enter Tryd.func88, Tryd.ntmps88
  go_wp2_with fail
  go_ret
  exact ⟨rfl, hT.out⟩
theorem takePriority_no (g : Nat) (f : Fr) (A : Option Addr) (c : Nat) (p : ByteArray) (w0 w : World) (hf : At w g f A c) (hlow : Below w0.heap.size w0 w) (hge : w0.heap.size ≤ g) (hp : p.size ≠ 5) :
    Calls Tryd.prog 76 #[.pointer (some ⟨g, 0, none⟩), .string p] w fun e w' => e = .returned (.bool false) ∧ TInv w0 w' g f A c := by
  have hT := Aside0.mk (TInv.mk hf hlow hge)
  have hs : ((p.size : Int) != 5) = true := bne_iff_ne.mpr (by omega)
  clear hf hlow hge hp
  go_enter Tryd.func76, Tryd.ntmps76
  go_wp2_with fail
  go_ret
  exact ⟨rfl, hT.out⟩
theorem takePriority_yes (g : Nat) (f : Fr) (A : Option Addr) (c : Nat) (p : ByteArray) (w0 w : World) (hf : At w g f A c) (hlow : Below w0.heap.size w0 w) (hge : w0.heap.size ≤ g) (hp : p.size = 5) :
    Calls Tryd.prog 76 #[.pointer (some ⟨g, 0, none⟩), .string p] w fun e w' => e = .returned (.bool true) ∧ TInv w0 w' g (wtF f p) A c := by
  have hT := Aside0.mk (TInv.mk hf hlow hge)
  have hs : ((p.size : Int) != 5) = false := by rw [hp]; rfl
  have HP := Aside0.mk hp
  clear hf hlow hge hp
  go_enter Tryd.func76, Tryd.ntmps76
  go_wp2_with (go_at_call 102; refine (takeWeight_calls g f A c p _ w0 _ hT.out.own hT.out.low hT.out.ge (by have := HP.out; omega) rfl).mono ?_; rintro e w3 ⟨rfl, ht⟩; have T3 := Aside0.mk ht; clear ht)
  go_ret
  exact ⟨rfl, T3.out⟩
theorem takeHeaders_calls (g : Nat) (f : Fr) (A : Option Addr) (c : Nat) (p : ByteArray) (w0 w : World) (hf : At w g f A c) (hlow : Below w0.heap.size w0 w) (hge : w0.heap.size ≤ g) (hp : has f.fl 32 = true → 5 ≤ p.size) :
    Calls Tryd.prog 74 #[.pointer (some ⟨g, 0, none⟩), .string p] w fun e w' => e = .returned (.bool true) ∧ TInv w0 w' g (headersF f p) A c := by
  have hT := Aside0.mk (TInv.mk hf hlow hge)
  have z1 := hf.c1
  have HP := Aside0.mk hp
  clear hp
  cases hx : has f.fl 32
  · have hx' : (Go.bits .and .i64 f.fl 32 != 0) = false := hx
    have HF : Aside0 (headersF f p = { f with da := p }) := ⟨if_neg (by rw [hx]; simp)⟩
    have y3 := hf.c3
    have yf : w.frozen? ⟨g, 3, none⟩ = false := blk_frozen hf 3
    clear hf hlow hge hx
    go_enter Tryd.func74, Tryd.ntmps74
    go_wp2_with fail
    go_ret
    exact ⟨rfl, by rw [HF.out]; exact hT.out.put3 p⟩
  · have hx' : (Go.bits .and .i64 f.fl 32 != 0) = true := hx
    have HF : Aside0 (headersF f p = { wtF f p with da := p.extract 5 p.size }) := ⟨if_pos hx⟩
    have hp5 := HP.out hx
    have HP5 := Aside0.mk hp5
    have b5 : (5 : Int) ≤ (p.size : Int) := by omega
    have n5 : 5 ≤ p.size := hp5
    clear hf hlow hge hx hp5
    go_enter Tryd.func74, Tryd.ntmps74
    go_wp2_with (go_at_call 102; refine (takeWeight_calls g f A c p _ w0 _ hT.out.own hT.out.low hT.out.ge HP5.out rfl).mono ?_; rintro e w3 ⟨rfl, ht⟩; have T3 := Aside0.mk ht; have y3 := ht.own.c3; have yf : w3.frozen? ⟨g, 3, none⟩ = false := blk_frozen ht.own 3; clear ht)
    go_ret
    exact ⟨rfl, by rw [HF.out]; exact T3.out.put3 (p.extract 5 p.size)⟩
theorem takePromise_calls (g : Nat) (f : Fr) (A : Option Addr) (c : Nat) (p : ByteArray) (w0 w : World) (hf : At w g f A c) (hlow : Below w0.heap.size w0 w) (hge : w0.heap.size ≤ g) (hp : 4 ≤ p.size) :
    Calls Tryd.prog 82 #[.pointer (some ⟨g, 0, none⟩), .string p] w fun e w' => e = .returned (.bool true) ∧ TInv w0 w' g (promiseF f p) A c := by
  have hT := Aside0.mk (TInv.mk hf hlow hge)
  have HSZ : Aside0 ((p.extract 0 4).size ≤ 4) := ⟨ext4 p 0⟩
  have b0 : (4 : Int) ≤ (p.size : Int) := by omega
  go_enter Tryd.func82, Tryd.ntmps82
  go_upto_region 1 with fail
  refine start_ (n := 13) (S := fun w' => ∃ h', TInv w0 w' g h' A c) (ds := [12]) #[false, false, false, false, false, false, false, false, false, false, false, false, false] (by kernel_rfl) rfl rfl (⟨_, (TInv.mk hf hlow hge).below (below_drew (Below.refl _ _))⟩) (fun hHeld => ?_)
  refine pure_ (i := 0) (N := some 5) (v := ?_) (a' := ?_) #[true, false, false, false, false, false, false, false, false, false, false, false, false] rfl rfl (by kernel_rfl) (fun _ _ _ h => h) (Or.inl ⟨by rfl, ?_⟩) ?_ ?_
  rotate_left
  · intro w'
    go_simp
    with_reducible rfl
  rotate_left
  · simp only [Act.put, List.setIfInBounds_toArray, List.set_cons_zero, List.set_cons_succ, i64_w, i32_w]
    rfl
  refine pure_ (i := 1) (N := some 6) (v := ?_) (a' := ?_) #[true, true, false, false, false, false, false, false, false, false, false, false, false] rfl rfl (by kernel_rfl) (fun _ _ _ h => h) (Or.inl ⟨by rfl, ?_⟩) ?_ ?_
  rotate_left
  · intro w'
    go_simp
    with_reducible rfl
  rotate_left
  · simp only [Act.put, List.setIfInBounds_toArray, List.set_cons_zero, List.set_cons_succ, i64_w, i32_w]
    rfl
  refine pure_ (i := 2) (N := some 7) (v := ?_) (a' := ?_) #[true, true, true, false, false, false, false, false, false, false, false, false, false] rfl rfl (by kernel_rfl) (fun _ _ _ h => h) (Or.inl ⟨by rfl, ?_⟩) ?_ ?_
  rotate_left
  · intro w'
    go_simp
    with_reducible rfl
  rotate_left
  · simp only [Act.put, List.setIfInBounds_toArray, List.set_cons_zero, List.set_cons_succ, i64_w, i32_w]
    rfl
  refine pure_ (i := 3) (N := some 8) (v := ?_) (a' := ?_) #[true, true, true, true, false, false, false, false, false, false, false, false, false] rfl rfl (by kernel_rfl) (fun _ _ _ h => h) (Or.inl ⟨by rfl, ?_⟩) ?_ ?_
  rotate_left
  · intro w'
    go_simp
    with_reducible rfl
  rotate_left
  · simp only [Act.put, List.setIfInBounds_toArray, List.set_cons_zero, List.set_cons_succ, i64_w, i32_w]
    rfl
  refine pure_ (i := 5) (N := some 10) (v := ?_) (a' := ?_) #[true, true, true, true, false, true, false, false, false, false, false, false, false] rfl rfl (by kernel_rfl) (fun _ _ _ h => h) (Or.inl ⟨by rfl, ?_⟩) ?_ ?_
  rotate_left
  · intro w'
    go_simp
    with_reducible rfl
  rotate_left
  · simp only [Act.put, List.setIfInBounds_toArray, List.set_cons_zero, List.set_cons_succ, i64_w, i32_w]
    rfl
  refine pure_ (i := 6) (N := some 11) (v := ?_) (a' := ?_) #[true, true, true, true, false, true, true, false, false, false, false, false, false] rfl rfl (by kernel_rfl) (fun _ _ _ h => h) (Or.inl ⟨by rfl, ?_⟩) ?_ ?_
  rotate_left
  · intro w'
    go_simp
    with_reducible rfl
  rotate_left
  · simp only [Act.put, List.setIfInBounds_toArray, List.set_cons_zero, List.set_cons_succ, i64_w, i32_w]
    rfl
  refine one_ (i := 4) (N := some 9) #[true, true, true, true, true, true, true, false, false, false, false, false, false] rfl rfl (by kernel_rfl) (by decide) (fun K hK => ?_)
  refine goes_ Tryd.func57 (by kernel_rfl) rfl #[.string (p.extract 0 4)] (by rfl) rfl rfl (by simp only [List.map_toArray, List.map_cons, List.map_nil]; rfl) ?_
  with_reducible refine (id_below (p.extract 0 4) _ _ HSZ.out rfl).mono ?_
  rintro e w3 ⟨rfl, hb⟩
  refine ⟨_, rfl, ?_⟩
  have T1 := Aside0.mk ((hT.out.below (below_drew (Below.refl _ _))).below hb)
  refine hK.out _ _ ((hHeld.imp fun _ h => h.below hb)) (fun hHeld => ?_)
  clear hK K
  refine norm_ (a' := ?_) ?_ ?_
  rotate_left
  · show Act.put _ (some 9) _ = _
    simp only [Act.put, List.setIfInBounds_toArray, List.set_cons_zero, List.set_cons_succ, i64_w, i32_w]
    rfl
  refine pure_ (i := 7) (N := some 12) (v := ?_) (a' := ?_) #[true, true, true, true, true, true, true, true, false, false, false, false, false] rfl rfl (by kernel_rfl) (fun _ _ _ h => h) (Or.inl ⟨by rfl, ?_⟩) ?_ ?_
  rotate_left
  · intro w'
    go_simp
    with_reducible rfl
  rotate_left
  · simp only [Act.put, List.setIfInBounds_toArray, List.set_cons_zero, List.set_cons_succ, i64_w, i32_w]
    rfl
  refine pure_ (i := 8) (N := some 13) (v := ?_) (a' := ?_) #[true, true, true, true, true, true, true, true, true, false, false, false, false] rfl rfl (by kernel_rfl) (fun _ _ _ h => h) (Or.inl ⟨by rfl, ?_⟩) ?_ ?_
  rotate_left
  · intro w'
    go_simp
    with_reducible rfl
  rotate_left
  · simp only [Act.put, List.setIfInBounds_toArray, List.set_cons_zero, List.set_cons_succ, i64_w, i32_w]
    rfl
  refine one_ (i := 9) (N := none) #[true, true, true, true, true, true, true, true, true, true, false, false, false] rfl rfl (by kernel_rfl) (by decide) (fun K hK => ?_)
  obtain ⟨h1, r1⟩ := hHeld
  have y1 := r1.own.c9
  have yf1 := blk_frozen r1.own 9
  refine skip_ (w1 := ?_) (by rfl) rfl ?_ ?_
  rotate_left
  · go_simp
    rfl
  clear y1 yf1
  refine hK.out _ _ (⟨_, r1.put9 _⟩) (fun hHeld => ?_)
  clear hK K
  refine pure_ (i := 10) (N := some 14) (v := ?_) (a' := ?_) #[true, true, true, true, true, true, true, true, true, true, true, false, false] rfl rfl (by kernel_rfl) (fun _ _ _ h => h) (Or.inl ⟨by rfl, ?_⟩) ?_ ?_
  rotate_left
  · intro w'
    go_simp
    with_reducible rfl
  rotate_left
  · simp only [Act.put, List.setIfInBounds_toArray, List.set_cons_zero, List.set_cons_succ, i64_w, i32_w]
    rfl
  refine pure_ (i := 11) (N := some 15) (v := ?_) (a' := ?_) #[true, true, true, true, true, true, true, true, true, true, true, true, false] rfl rfl (by kernel_rfl) (fun _ _ _ h => h) (Or.inl ⟨by rfl, ?_⟩) ?_ ?_
  rotate_left
  · intro w'
    go_simp
    with_reducible rfl
  rotate_left
  · simp only [Act.put, List.setIfInBounds_toArray, List.set_cons_zero, List.set_cons_succ, i64_w, i32_w]
    rfl
  refine last_ (i := 12) (N := none) #[true, true, true, true, true, true, true, true, true, true, true, true, true] rfl rfl (by kernel_rfl) (by decide) (fun K hK => ?_)
  obtain ⟨h1, r1⟩ := hHeld
  have y1 := r1.own.c3
  have yf1 := blk_frozen r1.own 3
  refine skip_ (w1 := ?_) (by rfl) rfl ?_ ?_
  rotate_left
  · go_simp
    rfl
  clear y1 yf1 r1
  refine hK.out _ _ ?_
  clear hK K
  refine done_ (by kernel_rfl) ?_
  go_wp2_with fail
  go_ret
  exact ⟨rfl, (T1.out.put9 (num (p.extract 0 4) % 2147483648)).put3 (p.extract 4 p.size)⟩
theorem takeGoAway_no (g : Nat) (f : Fr) (A : Option Addr) (c : Nat) (p : ByteArray) (w0 w : World) (hf : At w g f A c) (hlow : Below w0.heap.size w0 w) (hge : w0.heap.size ≤ g) (hp : p.size < 8) :
    Calls Tryd.prog 86 #[.pointer (some ⟨g, 0, none⟩), .string p] w fun e w' => e = .returned (.bool false) ∧ TInv w0 w' g f A c := by
  have hT := Aside0.mk (TInv.mk hf hlow hge)
  have hs : decide ((p.size : Int) < 8) = true := decide_eq_true (by omega)
  clear hf hlow hge
  go_enter Tryd.func86, Tryd.ntmps86
  go_wp2_with fail
  go_ret
  exact ⟨rfl, hT.out⟩
theorem takeGoAway_yes (g : Nat) (f : Fr) (A : Option Addr) (c : Nat) (p : ByteArray) (w0 w : World) (hf : At w g f A c) (hlow : Below w0.heap.size w0 w) (hge : w0.heap.size ≤ g) (hp : 8 ≤ p.size) :
    Calls Tryd.prog 86 #[.pointer (some ⟨g, 0, none⟩), .string p] w fun e w' => e = .returned (.bool true) ∧ TInv w0 w' g (goAwayF f p) A c := by
  have hT := Aside0.mk (TInv.mk hf hlow hge)
  have hs : decide ((p.size : Int) < 8) = false := decide_eq_false (by omega)
  have HSZ : Aside0 ((p.extract 0 4).size ≤ 4) := ⟨ext4 p 0⟩
  have HSZ2 : Aside0 ((p.extract 4 8).size ≤ 4) := ⟨ext4 p 4⟩
  have b0 : (4 : Int) ≤ (p.size : Int) := by omega
  have b8 : (8 : Int) ≤ (p.size : Int) := by omega
  go_enter Tryd.func86, Tryd.ntmps86
  go_upto_region 3 with fail
  refine start_ (n := 20) (S := fun w' => ∃ h', TInv w0 w' g h' A c) (ds := [19]) #[false, false, false, false, false, false, false, false, false, false, false, false, false, false, false, false, false, false, false, false] (by kernel_rfl) rfl rfl (⟨_, (TInv.mk hf hlow hge).below (below_drew (Below.refl _ _))⟩) (fun hHeld => ?_)
  refine pure_ (i := 0) (N := some 8) (v := ?_) (a' := ?_) #[true, false, false, false, false, false, false, false, false, false, false, false, false, false, false, false, false, false, false, false] rfl rfl (by kernel_rfl) (fun _ _ _ h => h) (Or.inl ⟨by rfl, ?_⟩) ?_ ?_
  rotate_left
  · intro w'
    go_simp
    with_reducible rfl
  rotate_left
  · simp only [Act.put, List.setIfInBounds_toArray, List.set_cons_zero, List.set_cons_succ, i64_w, i32_w]
    rfl
  refine pure_ (i := 1) (N := some 9) (v := ?_) (a' := ?_) #[true, true, false, false, false, false, false, false, false, false, false, false, false, false, false, false, false, false, false, false] rfl rfl (by kernel_rfl) (fun _ _ _ h => h) (Or.inl ⟨by rfl, ?_⟩) ?_ ?_
  rotate_left
  · intro w'
    go_simp
    with_reducible rfl
  rotate_left
  · simp only [Act.put, List.setIfInBounds_toArray, List.set_cons_zero, List.set_cons_succ, i64_w, i32_w]
    rfl
  refine pure_ (i := 2) (N := some 10) (v := ?_) (a' := ?_) #[true, true, true, false, false, false, false, false, false, false, false, false, false, false, false, false, false, false, false, false] rfl rfl (by kernel_rfl) (fun _ _ _ h => h) (Or.inl ⟨by rfl, ?_⟩) ?_ ?_
  rotate_left
  · intro w'
    go_simp
    with_reducible rfl
  rotate_left
  · simp only [Act.put, List.setIfInBounds_toArray, List.set_cons_zero, List.set_cons_succ, i64_w, i32_w]
    rfl
  refine pure_ (i := 3) (N := some 11) (v := ?_) (a' := ?_) #[true, true, true, true, false, false, false, false, false, false, false, false, false, false, false, false, false, false, false, false] rfl rfl (by kernel_rfl) (fun _ _ _ h => h) (Or.inl ⟨by rfl, ?_⟩) ?_ ?_
  rotate_left
  · intro w'
    go_simp
    with_reducible rfl
  rotate_left
  · simp only [Act.put, List.setIfInBounds_toArray, List.set_cons_zero, List.set_cons_succ, i64_w, i32_w]
    rfl
  refine pure_ (i := 4) (N := some 12) (v := ?_) (a' := ?_) #[true, true, true, true, true, false, false, false, false, false, false, false, false, false, false, false, false, false, false, false] rfl rfl (by kernel_rfl) (fun _ _ _ h => h) (Or.inl ⟨by rfl, ?_⟩) ?_ ?_
  rotate_left
  · intro w'
    go_simp
    with_reducible rfl
  rotate_left
  · simp only [Act.put, List.setIfInBounds_toArray, List.set_cons_zero, List.set_cons_succ, i64_w, i32_w]
    rfl
  refine pure_ (i := 6) (N := some 14) (v := ?_) (a' := ?_) #[true, true, true, true, true, false, true, false, false, false, false, false, false, false, false, false, false, false, false, false] rfl rfl (by kernel_rfl) (fun _ _ _ h => h) (Or.inl ⟨by rfl, ?_⟩) ?_ ?_
  rotate_left
  · intro w'
    go_simp
    with_reducible rfl
  rotate_left
  · simp only [Act.put, List.setIfInBounds_toArray, List.set_cons_zero, List.set_cons_succ, i64_w, i32_w]
    rfl
  refine pure_ (i := 7) (N := some 15) (v := ?_) (a' := ?_) #[true, true, true, true, true, false, true, true, false, false, false, false, false, false, false, false, false, false, false, false] rfl rfl (by kernel_rfl) (fun _ _ _ h => h) (Or.inl ⟨by rfl, ?_⟩) ?_ ?_
  rotate_left
  · intro w'
    go_simp
    with_reducible rfl
  rotate_left
  · simp only [Act.put, List.setIfInBounds_toArray, List.set_cons_zero, List.set_cons_succ, i64_w, i32_w]
    rfl
  refine pure_ (i := 9) (N := some 17) (v := ?_) (a' := ?_) #[true, true, true, true, true, false, true, true, false, true, false, false, false, false, false, false, false, false, false, false] rfl rfl (by kernel_rfl) (fun _ _ _ h => h) (Or.inl ⟨by rfl, ?_⟩) ?_ ?_
  rotate_left
  · intro w'
    go_simp
    with_reducible rfl
  rotate_left
  · simp only [Act.put, List.setIfInBounds_toArray, List.set_cons_zero, List.set_cons_succ, i64_w, i32_w]
    rfl
  refine pure_ (i := 10) (N := some 18) (v := ?_) (a' := ?_) #[true, true, true, true, true, false, true, true, false, true, true, false, false, false, false, false, false, false, false, false] rfl rfl (by kernel_rfl) (fun _ _ _ h => h) (Or.inl ⟨by rfl, ?_⟩) ?_ ?_
  rotate_left
  · intro w'
    go_simp
    with_reducible rfl
  rotate_left
  · simp only [Act.put, List.setIfInBounds_toArray, List.set_cons_zero, List.set_cons_succ, i64_w, i32_w]
    rfl
  refine one_ (i := 5) (N := some 13) #[true, true, true, true, true, true, true, true, false, true, true, false, false, false, false, false, false, false, false, false] rfl rfl (by kernel_rfl) (by decide) (fun K hK => ?_)
  refine goes_ Tryd.func57 (by kernel_rfl) rfl #[.string (p.extract 0 4)] (by rfl) rfl rfl (by simp only [List.map_toArray, List.map_cons, List.map_nil]; rfl) ?_
  with_reducible refine (id_below (p.extract 0 4) _ _ HSZ.out rfl).mono ?_
  rintro e w3 ⟨rfl, hb⟩
  refine ⟨_, rfl, ?_⟩
  have T1 := Aside0.mk ((hT.out.below (below_drew (Below.refl _ _))).below hb)
  refine hK.out _ _ ((hHeld.imp fun _ h => h.below hb)) (fun hHeld => ?_)
  clear hK K
  refine norm_ (a' := ?_) ?_ ?_
  rotate_left
  · show Act.put _ (some 13) _ = _
    simp only [Act.put, List.setIfInBounds_toArray, List.set_cons_zero, List.set_cons_succ, i64_w, i32_w]
    rfl
  refine one_ (i := 8) (N := some 16) #[true, true, true, true, true, true, true, true, true, true, true, false, false, false, false, false, false, false, false, false] rfl rfl (by kernel_rfl) (by decide) (fun K hK => ?_)
  refine goes_ Tryd.func56 (by kernel_rfl) rfl #[.string (p.extract 4 8)] (by rfl) rfl rfl (by simp only [List.map_toArray, List.map_cons, List.map_nil]; rfl) ?_
  with_reducible refine (got_below (p.extract 4 8) _ _ HSZ2.out rfl).mono ?_
  rintro e w3 ⟨rfl, hb⟩
  refine ⟨_, rfl, ?_⟩
  have T2 := Aside0.mk ((T1.out).below hb)
  refine hK.out _ _ ((hHeld.imp fun _ h => h.below hb)) (fun hHeld => ?_)
  clear hK K
  refine norm_ (a' := ?_) ?_ ?_
  rotate_left
  · show Act.put _ (some 16) _ = _
    simp only [Act.put, List.setIfInBounds_toArray, List.set_cons_zero, List.set_cons_succ, i64_w, i32_w]
    rfl
  refine pure_ (i := 11) (N := some 19) (v := ?_) (a' := ?_) #[true, true, true, true, true, true, true, true, true, true, true, true, false, false, false, false, false, false, false, false] rfl rfl (by kernel_rfl) (fun _ _ _ h => h) (Or.inl ⟨by rfl, ?_⟩) ?_ ?_
  rotate_left
  · intro w'
    go_simp
    with_reducible rfl
  rotate_left
  · simp only [Act.put, List.setIfInBounds_toArray, List.set_cons_zero, List.set_cons_succ, i64_w, i32_w]
    rfl
  refine pure_ (i := 12) (N := some 20) (v := ?_) (a' := ?_) #[true, true, true, true, true, true, true, true, true, true, true, true, true, false, false, false, false, false, false, false] rfl rfl (by kernel_rfl) (fun _ _ _ h => h) (Or.inl ⟨by rfl, ?_⟩) ?_ ?_
  rotate_left
  · intro w'
    go_simp
    with_reducible rfl
  rotate_left
  · simp only [Act.put, List.setIfInBounds_toArray, List.set_cons_zero, List.set_cons_succ, i64_w, i32_w]
    rfl
  refine one_ (i := 13) (N := none) #[true, true, true, true, true, true, true, true, true, true, true, true, true, true, false, false, false, false, false, false] rfl rfl (by kernel_rfl) (by decide) (fun K hK => ?_)
  obtain ⟨h1, r1⟩ := hHeld
  have y1 := r1.own.c9
  have yf1 := blk_frozen r1.own 9
  refine skip_ (w1 := ?_) (by rfl) rfl ?_ ?_
  rotate_left
  · go_simp
    rfl
  clear y1 yf1
  refine hK.out _ _ (⟨_, r1.put9 _⟩) (fun hHeld => ?_)
  clear hK K
  refine pure_ (i := 14) (N := some 21) (v := ?_) (a' := ?_) #[true, true, true, true, true, true, true, true, true, true, true, true, true, true, true, false, false, false, false, false] rfl rfl (by kernel_rfl) (fun _ _ _ h => h) (Or.inl ⟨by rfl, ?_⟩) ?_ ?_
  rotate_left
  · intro w'
    go_simp
    with_reducible rfl
  rotate_left
  · simp only [Act.put, List.setIfInBounds_toArray, List.set_cons_zero, List.set_cons_succ, i64_w, i32_w]
    rfl
  refine pure_ (i := 15) (N := some 22) (v := ?_) (a' := ?_) #[true, true, true, true, true, true, true, true, true, true, true, true, true, true, true, true, false, false, false, false] rfl rfl (by kernel_rfl) (fun _ _ _ h => h) (Or.inl ⟨by rfl, ?_⟩) ?_ ?_
  rotate_left
  · intro w'
    go_simp
    with_reducible rfl
  rotate_left
  · simp only [Act.put, List.setIfInBounds_toArray, List.set_cons_zero, List.set_cons_succ, i64_w, i32_w]
    rfl
  refine one_ (i := 16) (N := none) #[true, true, true, true, true, true, true, true, true, true, true, true, true, true, true, true, true, false, false, false] rfl rfl (by kernel_rfl) (by decide) (fun K hK => ?_)
  obtain ⟨h1, r1⟩ := hHeld
  have y1 := r1.own.c8
  have yf1 := blk_frozen r1.own 8
  refine skip_ (w1 := ?_) (by rfl) rfl ?_ ?_
  rotate_left
  · go_simp
    rfl
  clear y1 yf1
  refine hK.out _ _ (⟨_, r1.put8 _⟩) (fun hHeld => ?_)
  clear hK K
  refine pure_ (i := 17) (N := some 23) (v := ?_) (a' := ?_) #[true, true, true, true, true, true, true, true, true, true, true, true, true, true, true, true, true, true, false, false] rfl rfl (by kernel_rfl) (fun _ _ _ h => h) (Or.inl ⟨by rfl, ?_⟩) ?_ ?_
  rotate_left
  · intro w'
    go_simp
    with_reducible rfl
  rotate_left
  · simp only [Act.put, List.setIfInBounds_toArray, List.set_cons_zero, List.set_cons_succ, i64_w, i32_w]
    rfl
  refine pure_ (i := 18) (N := some 24) (v := ?_) (a' := ?_) #[true, true, true, true, true, true, true, true, true, true, true, true, true, true, true, true, true, true, true, false] rfl rfl (by kernel_rfl) (fun _ _ _ h => h) (Or.inl ⟨by rfl, ?_⟩) ?_ ?_
  rotate_left
  · intro w'
    go_simp
    with_reducible rfl
  rotate_left
  · simp only [Act.put, List.setIfInBounds_toArray, List.set_cons_zero, List.set_cons_succ, i64_w, i32_w]
    rfl
  refine last_ (i := 19) (N := none) #[true, true, true, true, true, true, true, true, true, true, true, true, true, true, true, true, true, true, true, true] rfl rfl (by kernel_rfl) (by decide) (fun K hK => ?_)
  obtain ⟨h1, r1⟩ := hHeld
  have y1 := r1.own.c3
  have yf1 := blk_frozen r1.own 3
  refine skip_ (w1 := ?_) (by rfl) rfl ?_ ?_
  rotate_left
  · go_simp
    rfl
  clear y1 yf1 r1
  refine hK.out _ _ ?_
  clear hK K
  refine done_ (by kernel_rfl) ?_
  go_wp2_with fail
  go_ret
  exact ⟨rfl, ((T2.out.put9 (num (p.extract 0 4) % 2147483648)).put8 (num (p.extract 4 8))).put3 (p.extract 8 p.size)⟩
end Go.Proofs.YtoffhlbdfhhhjaaDoor.Fr
namespace Go.Proofs.YtoffhlbdfhhhjaaDoor.Fr
open Go Go.RowKit Go.Proofs.YtoffhlbdfhhhjaaDoorW.PrintWords Go.Proofs.YtoffhlbdfhhhjaaDoorW.PrintLast Go.Proofs.YtoffhlbdfhhhjaaDoorW.PrintMore Go.Proofs.YtoffhlbdfhhhjaaDoor.QL
set_option linter.unusedSimpArgs false
set_option linter.unusedVariables false
set_option maxHeartbeats 40000000
set_option maxRecDepth 100000
theorem TInv.put10 {w0 w : World} {g : Nat} {f : Fr} {A : Option Addr} {c : Nat} (r : TInv w0 w g f A c) (ps : List S32) (A' : Option Addr) (c' : Nat) : TInv w0 (w.setCell ⟨g, 10, none⟩ (.slice A' ps.length c')) g { f with ps := ps } A' c' :=
  ⟨by have hb := blk_set r.own 10 (.slice A' ps.length c'); simpa [At, Fr.cells] using hb, r.low.setCell (p := ⟨g, 10, none⟩) r.ge _, r.ge⟩
/-- n params out of bytes. -/
def pars : Nat → List UInt8 → List S32
  | 0, _ => []
  | n + 1, l => ⟨numFrom 0 (l.take 2), numFrom 0 ((l.drop 2).take 4)⟩ :: pars n (l.drop 6)
theorem pars_length (n : Nat) (l : List UInt8) : (pars n l).length = n := by
  induction n generalizing l with
  | zero => rfl
  | succ n ih => simp [pars, ih]
theorem num_extract (p : ByteArray) (i j : Nat) : num (p.extract i j) = numFrom 0 ((p.data.toList.drop i).take (j - i)) := by
  unfold num
  rw [ByteArray.data_extract, Array.toList_extract, List.extract_eq_take_drop]
theorem list_extract (p : ByteArray) (i : Nat) : (p.extract i p.size).data.toList = p.data.toList.drop i := by
  rw [ByteArray.data_extract, Array.toList_extract, List.extract_eq_take_drop]
  exact List.take_of_length_le (by simp)
/-- The frame that is read, and its params' row. -/
structure PInv (w0 w : World) (g : Nat) (f : Fr) (v : Value) (A : Option Addr) (c : Nat) : Prop where
  inv : TInv w0 w g f A c
  val : v = .slice A f.ps.length c
  row : Kd.R k32 32 w w0.heap.size (fun k => k ≠ g) v f.ps
theorem PInv.below {w0 w w1 : World} {g : Nat} {f : Fr} {v : Value} {A : Option Addr} {c : Nat} (r : PInv w0 w g f v A c) (hb : Below w.heap.size w w1) : PInv w0 w1 g f v A c := ⟨r.inv.below hb, r.val, Kd.R_below r.row hb⟩
theorem full_text (p : ByteArray) (h : 0 < p.size) : (!p.toList.isEmpty) = true := by
  rw [ByteArray.toList_eq]
  cases hl : p.data.toList with
  | nil =>
    have : p.data.toList.length = p.size := rfl
    rw [hl] at this
    simp at this
    omega
  | cons a t => rfl
theorem no_text (p : ByteArray) (h : p.size = 0) : p.toList.isEmpty = true := by
  rw [ByteArray.toList_eq]
  have : p.data.toList.length = p.size := rfl
  rw [h] at this
  rw [List.eq_nil_of_length_eq_zero this]
  rfl
theorem takeParams_no (g : Nat) (f : Fr) (A : Option Addr) (c : Nat) (p : ByteArray) (w0 w : World) (hf : At w g f A c) (hlow : Below w0.heap.size w0 w) (hge : w0.heap.size ≤ g) (h : ((p.size % 6 = 0) = False) ∨ (has f.fl 1 = true ∧ 0 < p.size)) (h63 : p.size ≤ 9223372036854775807) :
    Calls Tryd.prog 80 #[.pointer (some ⟨g, 0, none⟩), .string p] w fun e w' => e = .returned (.bool false) ∧ TInv w0 w' g f A c := by
  have hT := Aside0.mk (TInv.mk hf hlow hge)
  have z1 := hf.c1
  by_cases h6 : p.size % 6 = 0
  · have hb : has f.fl 1 = true ∧ 0 < p.size := by
      rcases h with h | h
      · exact absurd h6 (by rw [h]; exact id)
      · exact h
    have hx' : (Go.bits .and .i64 f.fl 1 != 0) = true := hb.1
    have hm0 : ((p.size : Int) % 6) = 0 := by omega
    have hm : (((p.size : Int) % 6) != 0) = false := by rw [hm0]; rfl
    have hs := full_text p hb.2
    clear hm0
    clear hf hlow hge h hb h6
    go_enter Tryd.func80, Tryd.ntmps80
    go_wp2_with fail
    go_ret
    exact ⟨rfl, hT.out⟩
  · have hm : (((p.size : Int) % 6) != 0) = true := bne_iff_ne.mpr (by omega)
    clear hf hlow hge h h6
    go_enter Tryd.func80, Tryd.ntmps80
    go_wp2_with fail
    go_ret
    exact ⟨rfl, hT.out⟩
theorem takeParams_yes (g : Nat) (f : Fr) (p : ByteArray) (n : Nat) (w0 w : World) (hf : At w g f none 0) (hnil : f.ps = []) (hlow : Below w0.heap.size w0 w) (hge : w0.heap.size ≤ g) (hn : p.size = 6 * n) (hno : has f.fl 1 = false ∨ n = 0) (h63 : p.size ≤ 65536) :
    Calls Tryd.prog 80 #[.pointer (some ⟨g, 0, none⟩), .string p] w fun e w' => e = .returned (.bool true) ∧ ∃ A c, PInv w0 w' g { f with ps := pars n p.data.toList } (.slice A n c) A c := by
  have hnf : f = { f with ps := [] } := by rw [← hnil]
  have hT : Aside0 (PInv w0 w g { f with ps := [] } (.slice none 0 0) none 0) := ⟨⟨by rw [← hnf]; exact ⟨hf, hlow, hge⟩, rfl, Kd.R_nil _ _ _ _ _⟩⟩
  have z1 := hf.c1
  have hm0 : ((p.size : Int) % 6) = 0 := by omega
  have hm : (((p.size : Int) % 6) != 0) = false := by rw [hm0]; rfl
  have HN := Aside0.mk hn
  have H63 := Aside0.mk h63
  have hcase : (Go.bits .and .i64 f.fl 1 != 0) = false ∨ (n = 0 ∧ (!p.toList.isEmpty) = false ∧ (Go.bits .and .i64 f.fl 1 != 0) = true) := by
    cases hb : (Go.bits .and .i64 f.fl 1 != 0)
    · exact .inl rfl
    · rcases hno with h | h
      · unfold has at h
        rw [hb] at h
        cases h
      · exact .inr ⟨h, by rw [no_text p (by omega)]; rfl, rfl⟩
  clear hf hlow hge hnil hnf hm0 hno hn
  rcases hcase with hb1 | ⟨hb0, hb2, hb3⟩
  all_goals
    first
      | (have HB0 := Aside0.mk hb0; clear hb0)
      | skip
    go_enter Tryd.func80, Tryd.ntmps80
    go_wp2_with fail
    first
      | clear hb1
      | clear hb2 hb3
    go_loopw [1] (fun v w' => ∃ (m : Nat) (q : ByteArray) (ps : List S32) (A : Option Addr) (c : Nat), v = .string q ∧ Aside0 (q.size = 6 * m) ∧ Aside0 (ps.length + m = n) ∧ Aside0 (ps ++ pars m q.data.toList = pars n p.data.toList) ∧ Aside0 (PInv w0 w' g { f with ps := ps } (.slice A ps.length c) A c)) (fun v _ => match v with | .string q => q.size | _ => 0)
    case atStart => exact ⟨n, p, [], none, 0, rfl, HN, ⟨by simp⟩, ⟨rfl⟩, hT⟩
    case round =>
      obtain ⟨m, q, ps, A, c, rfl, HQ, HL, HE, PK⟩ := hrel
      cases m with
      | zero =>
        have he : (!q.toList.isEmpty) = false := by rw [no_text q (by have := HQ.out; omega)]; rfl
        go_wp2_with fail
        go_ret
        refine ⟨rfl, A, c, ?_⟩
        have e := HE.out
        have hl := HL.out
        rw [show pars 0 q.data.toList = [] from rfl, List.append_nil] at e
        have hn : ps.length = n := by omega
        rw [← e, ← hn]
        exact PK.out
      | succ m =>
        have he : (!q.toList.isEmpty) = true := full_text q (by have := HQ.out; omega)
        have hq := HQ.out
        have b2 : (2 : Int) ≤ (q.size : Int) := by omega
        have b6 : (6 : Int) ≤ (q.size : Int) := by omega
        have HS2 : Aside0 ((q.extract 0 2).size ≤ 4) := ⟨by simp; omega⟩
        have HS4 : Aside0 ((q.extract 2 6).size ≤ 4) := ⟨ext4 q 2⟩
        have HPS : Aside0 ((ps.length + 1) * 16 ≤ 140737488355328) := ⟨by have h1 := HL.out; have h2 := HN.out; have h3 := H63.out; omega⟩
        obtain ⟨x, hx⟩ : ∃ x, num (q.extract 0 2) = x := ⟨_, rfl⟩
        obtain ⟨y, hy⟩ : ∃ x, num (q.extract 2 6) = x := ⟨_, rfl⟩
        have HX := Aside0.mk hx
        have HY := Aside0.mk hy
        have hst : pars (m + 1) q.data.toList = ⟨x, y⟩ :: pars m (q.extract 6 q.size).data.toList := by
          rw [← hx, ← hy, num_extract, num_extract, list_extract]
          rfl
        have HST := Aside0.mk hst
        have HQ2 : Aside0 ((q.extract 6 q.size).size = 6 * m) := ⟨by simp; omega⟩
        obtain ⟨v, hv⟩ : ∃ v, Value.slice A ps.length c = v := ⟨_, rfl⟩
        rw [hv] at PK
        have HV := Aside0.mk hv
        clear hx hy hst hq hv
        go_upto_region 5 with fail
        have c0 : wr.drew.cell? ⟨g, 10, none⟩ = some v := by rw [PK.out.val]; exact PK.out.inv.own.c10
        have c1 : wr.drew.frozen? ⟨g, 10, none⟩ = false := blk_frozen PK.out.inv.own 10
        refine start_ (n := 17) (S := fun w' => w'.cell? ⟨g, 10, none⟩ = some v ∧ w'.frozen? ⟨g, 10, none⟩ = false) (ds := [16]) #[false, false, false, false, false, false, false, false, false, false, false, false, false, false, false, false, false] (by kernel_rfl) rfl rfl ⟨c0, c1⟩ (fun hHeld => ?_)
        refine pure_ (i := 0) (N := some 25) (v := ?_) (a' := ?_) #[true, false, false, false, false, false, false, false, false, false, false, false, false, false, false, false, false] rfl rfl (by kernel_rfl) (fun _ _ _ h => h) (Or.inl ⟨by rfl, ?_⟩) ?_ ?_
        rotate_left
        · intro w'
          go_simp
          with_reducible rfl
        rotate_left
        · simp only [Act.put, List.setIfInBounds_toArray, List.set_cons_zero, List.set_cons_succ, i64_w, i32_w]
          rfl
        refine pure_ (i := 1) (N := some 26) (v := ?_) (a' := ?_) #[true, true, false, false, false, false, false, false, false, false, false, false, false, false, false, false, false] rfl rfl (by kernel_rfl) (fun _ _ _ h => h) (Or.inl ⟨by rfl, ?_⟩) ?_ ?_
        rotate_left
        · intro w'
          go_simp
          with_reducible rfl
        rotate_left
        · simp only [Act.put, List.setIfInBounds_toArray, List.set_cons_zero, List.set_cons_succ, i64_w, i32_w]
          rfl
        refine pure_ (i := 2) (N := some 27) (v := ?_) (a' := ?_) #[true, true, true, false, false, false, false, false, false, false, false, false, false, false, false, false, false] rfl rfl (by kernel_rfl) (fun _ _ _ h => h) (Or.inl ⟨by rfl, ?_⟩) ?_ ?_
        rotate_left
        · intro w'
          go_simp
          with_reducible rfl
        rotate_left
        · simp only [Act.put, List.setIfInBounds_toArray, List.set_cons_zero, List.set_cons_succ, i64_w, i32_w]
          rfl
        refine pure_ (i := 3) (N := some 28) (v := ?_) (a' := ?_) #[true, true, true, true, false, false, false, false, false, false, false, false, false, false, false, false, false] rfl rfl (by kernel_rfl) (fun _ _ _ h => h) (Or.inl ⟨by rfl, ?_⟩) ?_ ?_
        rotate_left
        · intro w'
          go_simp
          with_reducible rfl
        rotate_left
        · simp only [Act.put, List.setIfInBounds_toArray, List.set_cons_zero, List.set_cons_succ, i64_w, i32_w]
          rfl
        refine pure_ (i := 5) (N := some 30) (v := ?_) (a' := ?_) #[true, true, true, true, false, true, false, false, false, false, false, false, false, false, false, false, false] rfl rfl (by kernel_rfl) (fun _ _ _ h => h) (Or.inl ⟨by rfl, ?_⟩) ?_ ?_
        rotate_left
        · intro w'
          go_simp
          with_reducible rfl
        rotate_left
        · simp only [Act.put, List.setIfInBounds_toArray, List.set_cons_zero, List.set_cons_succ, i64_w, i32_w]
          rfl
        refine pure_ (i := 6) (N := some 31) (v := ?_) (a' := ?_) #[true, true, true, true, false, true, true, false, false, false, false, false, false, false, false, false, false] rfl rfl (by kernel_rfl) (fun _ _ _ h => h) (Or.inl ⟨by rfl, ?_⟩) ?_ ?_
        rotate_left
        · intro w'
          go_simp
          with_reducible rfl
        rotate_left
        · simp only [Act.put, List.setIfInBounds_toArray, List.set_cons_zero, List.set_cons_succ, i64_w, i32_w]
          rfl
        refine pure_ (i := 8) (N := some 33) (v := ?_) (a' := ?_) #[true, true, true, true, false, true, true, false, true, false, false, false, false, false, false, false, false] rfl rfl (by kernel_rfl) (fun _ _ _ h => h) (Or.inl ⟨by rfl, ?_⟩) ?_ ?_
        rotate_left
        · intro w'
          go_simp
          with_reducible rfl
        rotate_left
        · simp only [Act.put, List.setIfInBounds_toArray, List.set_cons_zero, List.set_cons_succ, i64_w, i32_w]
          rfl
        refine pure_ (i := 9) (N := some 34) (v := ?_) (a' := ?_) #[true, true, true, true, false, true, true, false, true, true, false, false, false, false, false, false, false] rfl rfl (by kernel_rfl) (fun _ _ _ h => h) (Or.inl ⟨by rfl, ?_⟩) ?_ ?_
        rotate_left
        · intro w'
          go_simp
          with_reducible rfl
        rotate_left
        · simp only [Act.put, List.setIfInBounds_toArray, List.set_cons_zero, List.set_cons_succ, i64_w, i32_w]
          rfl
        refine take_ (i := 4) (N := some 29) (v := ?_) (a' := ?_) #[true, true, true, true, true, true, true, false, true, true, false, false, false, false, false, false, false] rfl rfl (by kernel_rfl) (fun _ _ _ h => h) (Or.inl ⟨by rfl, ?_⟩) hHeld ?_ ?_
        rotate_left
        · rintro w' ⟨s0, s1⟩
          go_simp
          with_reducible rfl
        rotate_left
        · simp only [Act.put, List.setIfInBounds_toArray, List.set_cons_zero, List.set_cons_succ, i64_w, i32_w]
          rfl
        refine one_ (i := 7) (N := some 32) #[true, true, true, true, true, true, true, true, true, true, false, false, false, false, false, false, false] rfl rfl (by kernel_rfl) (by decide) (fun K hK => ?_)
        refine goes_ Tryd.func56 (by kernel_rfl) rfl #[.string (q.extract 0 2)] (by rfl) rfl rfl (by simp only [List.map_toArray, List.map_cons, List.map_nil]; rfl) ?_
        with_reducible refine (got_below (q.extract 0 2) x _ HS2.out HX.out).mono ?_
        rintro e w3 ⟨rfl, hb⟩
        refine ⟨_, rfl, ?_⟩
        have P3 := Aside0.mk ((PK.out.below (below_drew (Below.refl _ _))).below hb)
        refine hK.out _ _ ⟨(hb.cell (World.block_lt_of_cell? _ _ hHeld.1)).trans hHeld.1, (hb.frozen (p := ⟨g, 10, none⟩) (World.block_lt_of_cell? _ _ hHeld.1)).trans hHeld.2⟩ (fun hHeld => ?_)
        clear hK K
        refine norm_ (a' := ?_) ?_ ?_
        rotate_left
        · show Act.put _ (some 32) _ = _
          simp only [Act.put, List.setIfInBounds_toArray, List.set_cons_zero, List.set_cons_succ, i64_w, i32_w]
          rfl
        refine one_ (i := 10) (N := some 35) #[true, true, true, true, true, true, true, true, true, true, true, false, false, false, false, false, false] rfl rfl (by kernel_rfl) (by decide) (fun K hK => ?_)
        refine goes_ Tryd.func56 (by kernel_rfl) rfl #[.string (q.extract 2 6)] (by rfl) rfl rfl (by simp only [List.map_toArray, List.map_cons, List.map_nil]; rfl) ?_
        with_reducible refine (got_below (q.extract 2 6) y _ HS4.out HY.out).mono ?_
        rintro e w4 ⟨rfl, hb⟩
        refine ⟨_, rfl, ?_⟩
        have P4 := Aside0.mk (P3.out.below hb)
        refine hK.out _ _ ⟨(hb.cell (World.block_lt_of_cell? _ _ hHeld.1)).trans hHeld.1, (hb.frozen (p := ⟨g, 10, none⟩) (World.block_lt_of_cell? _ _ hHeld.1)).trans hHeld.2⟩ (fun hHeld => ?_)
        clear hK K
        refine norm_ (a' := ?_) ?_ ?_
        rotate_left
        · show Act.put _ (some 35) _ = _
          simp only [Act.put, List.setIfInBounds_toArray, List.set_cons_zero, List.set_cons_succ, i64_w, i32_w]
          rfl
        refine pure_ (i := 11) (N := some 36) (v := ?_) (a' := ?_) #[true, true, true, true, true, true, true, true, true, true, true, true, false, false, false, false, false] rfl rfl (by kernel_rfl) (fun _ _ _ h => h) (Or.inl ⟨by rfl, ?_⟩) ?_ ?_
        rotate_left
        · intro w'
          go_simp
          with_reducible rfl
        rotate_left
        · simp only [Act.put, List.setIfInBounds_toArray, List.set_cons_zero, List.set_cons_succ, i64_w, i32_w]
          rfl
        refine one_ (i := 12) (N := some 37) #[true, true, true, true, true, true, true, true, true, true, true, true, true, false, false, false, false] rfl rfl (by kernel_rfl) (by decide) (fun K hK => ?_)
        refine value_ (w1 := ?_) (v := ?_) (by rfl) rfl ?_ ?_
        rotate_left 2
        · go_simp
          constructor
          · rfl
          · rfl
        refine hK.out _ _ ⟨((below_alloc (Below.refl _ _) _).cell (World.block_lt_of_cell? _ _ hHeld.1)).trans hHeld.1, ((below_alloc (Below.refl _ _) _).frozen (p := ⟨g, 10, none⟩) (World.block_lt_of_cell? _ _ hHeld.1)).trans hHeld.2⟩ (fun hHeld => ?_)
        clear hK K
        refine norm_ (a' := ?_) ?_ ?_
        rotate_left
        · show Act.put _ (some 37) _ = _
          simp only [Act.put, List.setIfInBounds_toArray, List.set_cons_zero, List.set_cons_succ, i64_w, i32_w]
          rfl
        refine one_ (i := 13) (N := some 38) #[true, true, true, true, true, true, true, true, true, true, true, true, true, true, false, false, false] rfl rfl (by kernel_rfl) (by decide) (fun K hK => ?_)
        refine Kd.R_append_step k32 (w0 := w4) w0.heap.size (by rfl) (.tmp 29) (.tmp 37) 22 32 (.agg #[.int .i64 0, .int .i64 0]) 16 rfl Tryd.underlying22 info32 rfl (by decide) (by omega) v ps ⟨x, y⟩ [.int .i64 x, .int .i64 y] (fun k => k ≠ g) (fun _ => False) rfl rfl ?aP ?aK ?aF ?aO ?aB ?aS ?aL ?_
        (case aP => exact k32_mkM _ _ _ ⟨x, y⟩)
        (case aK => exact fun _ h => h.elim)
        (case aF => exact fun k hk => by have := blk_lt P4.out.inv.own; omega)
        (case aO => exact P4.out.row)
        (case aB => exact Below.refl _ _)
        (case aS => exact P4.out.inv.low.size)
        (case aL => have := HPS.out; omega)
        intro v5 w5 ho hb hg hat
        obtain ⟨A5, c5, e5, _⟩ := Kd.R_reads ho
        rw [List.length_append, List.length_singleton] at e5
        subst e5
        have HO5 := Aside0.mk ho
        have HB5 := Aside0.mk hb
        have HG5 := Aside0.mk (blk_grown P4.out.inv.own hg (Kd.R_away P4.out.row (fun _ h => h)))
        clear ho hb hg hat
        refine hK.out _ _ ⟨by rw [P4.out.val]; exact blk_cell HG5.out 10, blk_frozen HG5.out 10⟩ (fun hHeld => ?_)
        clear hK K
        refine norm_ (a' := ?_) ?_ ?_
        rotate_left
        · show Act.put _ (some 38) _ = _
          simp only [Act.put, List.setIfInBounds_toArray, List.set_cons_zero, List.set_cons_succ, i64_w, i32_w]
          rfl
        refine pure_ (i := 14) (N := some 39) (v := ?_) (a' := ?_) #[true, true, true, true, true, true, true, true, true, true, true, true, true, true, true, false, false] rfl rfl (by kernel_rfl) (fun _ _ _ h => h) (Or.inl ⟨by rfl, ?_⟩) ?_ ?_
        rotate_left
        · intro w'
          go_simp
          with_reducible rfl
        rotate_left
        · simp only [Act.put, List.setIfInBounds_toArray, List.set_cons_zero, List.set_cons_succ, i64_w, i32_w]
          rfl
        refine pure_ (i := 15) (N := some 40) (v := ?_) (a' := ?_) #[true, true, true, true, true, true, true, true, true, true, true, true, true, true, true, true, false] rfl rfl (by kernel_rfl) (fun _ _ _ h => h) (Or.inl ⟨by rfl, ?_⟩) ?_ ?_
        rotate_left
        · intro w'
          go_simp
          with_reducible rfl
        rotate_left
        · simp only [Act.put, List.setIfInBounds_toArray, List.set_cons_zero, List.set_cons_succ, i64_w, i32_w]
          rfl
        refine last_ (i := 16) (N := none) #[true, true, true, true, true, true, true, true, true, true, true, true, true, true, true, true, true] rfl rfl (by kernel_rfl) (by decide) (fun K hK => ?_)
        refine skip_ (w1 := ?_) (by rfl) rfl ?_ ?_
        rotate_left
        · go_simp
          rfl
        refine hK.out _ _ ?_
        clear hK K
        refine done_ (by kernel_rfl) ?_
        repeat (rename World.cell? _ _ = _ ∧ _ => hh; clear hh)
        clear c0 c1
        go_wp2_with fail
        have hPl : (ps ++ [(⟨x, y⟩ : S32)]).length = ps.length + 1 := by rw [List.length_append]; rfl
        have hI := (TInv.mk HG5.out (P4.out.inv.low.trans HB5.out) P4.out.inv.ge).put10 (ps ++ [⟨x, y⟩]) A5 c5
        rw [hPl] at hI
        have hR := Kd.R_far HO5.out (p := ⟨g, 10, none⟩) (fun _ h => h) (.slice A5 (ps.length + 1) c5)
        refine ⟨⟨m, q.extract 6 q.size, ps ++ [⟨x, y⟩], A5, c5, rfl, HQ2, ⟨by rw [hPl]; have := HL.out; omega⟩, ⟨by rw [← HE.out, HST.out, List.append_assoc]; rfl⟩, ⟨?_⟩⟩, ?_⟩
        · rw [hPl]
          exact ⟨hI, by rw [hPl], hR⟩
        · show (q.extract 6 q.size).size < q.size
          have h1 := HQ.out
          have h2 := HQ2.out
          omega
end Go.Proofs.YtoffhlbdfhhhjaaDoor.Fr
namespace Go.Proofs.YtoffhlbdfhhhjaaDoor.Fr
open Go Go.RowKit Go.Proofs.YtoffhlbdfhhhjaaDoorW.PrintWords Go.Proofs.YtoffhlbdfhhhjaaDoorW.PrintLast Go.Proofs.YtoffhlbdfhhhjaaDoorW.PrintMore Go.Proofs.YtoffhlbdfhhhjaaDoor.QL
set_option linter.unusedSimpArgs false
set_option linter.unusedVariables false
set_option maxHeartbeats 40000000
set_option maxRecDepth 100000
/-- The bytes ahead of the data. -/
def aheadI (f : Fr) : Int := (if has f.fl 8 = true ∧ has (kFl f.ty) 8 = true ∧ f.ty < 10 then 1 else 0) + (if f.ty = 1 ∧ has f.fl 32 = true then 5 else if f.ty = 5 then 4 else 0)
theorem ahead_calls (g : Nat) (f : Fr) (A : Option Addr) (c : Nat) (x : Int) (w : World) (hf : At w g f A c) (hG : GL w) (h0 : 0 ≤ f.ty) (hx : aheadI f = x) : Calls Tryd.prog 60 #[.pointer (some ⟨g, 0, none⟩)] w fun e w' => e = .returned (.int .i64 x) ∧ Below w.heap.size w w' := by
  have HF := Aside0.mk hf
  have HG := Aside0.mk hG
  have H0 := Aside0.mk h0
  have HB := Aside0.mk (Below.refl w.heap.size w)
  have z0 := hf.c0
  have z1 := hf.c1
  have hfl := fld0
  obtain ⟨k, hk⟩ : ∃ k, kFl f.ty = k := ⟨_, rfl⟩
  have HK := Aside0.mk hk
  unfold aheadI at hx
  rw [hk] at hx
  have hA : ((has f.fl 8 = false ∧ (if has f.fl 8 = true ∧ has k 8 = true ∧ f.ty < 10 then (1 : Int) else 0) = 0) ∨ (has f.fl 8 = true ∧ has k 8 = false ∧ (if has f.fl 8 = true ∧ has k 8 = true ∧ f.ty < 10 then (1 : Int) else 0) = 0)) ∨ ((has f.fl 8 = true ∧ has k 8 = true ∧ decide (f.ty < 10) = false ∧ (if has f.fl 8 = true ∧ has k 8 = true ∧ f.ty < 10 then (1 : Int) else 0) = 0) ∨ (has f.fl 8 = true ∧ has k 8 = true ∧ decide (f.ty < 10) = true ∧ (if has f.fl 8 = true ∧ has k 8 = true ∧ f.ty < 10 then (1 : Int) else 0) = 1)) := by
    cases h8 : has f.fl 8
    · exact .inl (.inl ⟨rfl, if_neg (by simp)⟩)
    · cases k8 : has k 8
      · exact .inl (.inr ⟨rfl, rfl, if_neg (by simp)⟩)
      · by_cases ht : f.ty < 10
        · exact .inr (.inr ⟨rfl, rfl, decide_eq_true ht, if_pos ⟨rfl, rfl, ht⟩⟩)
        · exact .inr (.inl ⟨rfl, rfl, decide_eq_false ht, if_neg (by simp [ht])⟩)
  have hC : (((f.ty == 1) = true ∧ has f.fl 32 = true ∧ (if f.ty = 1 ∧ has f.fl 32 = true then (5 : Int) else if f.ty = 5 then 4 else 0) = 5) ∨ ((f.ty == 1) = true ∧ has f.fl 32 = false ∧ (f.ty == 5) = false ∧ (if f.ty = 1 ∧ has f.fl 32 = true then (5 : Int) else if f.ty = 5 then 4 else 0) = 0)) ∨ (((f.ty == 1) = false ∧ (f.ty == 5) = true ∧ (if f.ty = 1 ∧ has f.fl 32 = true then (5 : Int) else if f.ty = 5 then 4 else 0) = 4) ∨ ((f.ty == 1) = false ∧ (f.ty == 5) = false ∧ (if f.ty = 1 ∧ has f.fl 32 = true then (5 : Int) else if f.ty = 5 then 4 else 0) = 0)) := by
    by_cases h1 : f.ty = 1
    · cases h32 : has f.fl 32
      · exact .inl (.inr ⟨by rw [h1]; rfl, rfl, by rw [h1]; rfl, by rw [if_neg (by simp), if_neg (by omega)]⟩)
      · exact .inl (.inl ⟨by rw [h1]; rfl, rfl, if_pos ⟨h1, rfl⟩⟩)
    · have e1 : (f.ty == 1) = false := beq_eq_false_iff_ne.mpr h1
      by_cases h5 : f.ty = 5
      · exact .inr (.inl ⟨e1, by rw [h5]; rfl, by rw [if_neg (fun h => h1 h.1), if_pos h5]⟩)
      · exact .inr (.inr ⟨e1, beq_eq_false_iff_ne.mpr h5, by rw [if_neg (fun h => h1 h.1), if_neg h5]⟩)
  clear hf hG h0 hk
  rcases hA with (⟨a1, ea⟩ | ⟨a1, a2, ea⟩) | (⟨a1, a2, a3, ea⟩ | ⟨a1, a2, a3, ea⟩)
  all_goals
    rw [ea] at hx
    clear ea
    have a1' : (Go.bits .and .i64 f.fl 8 != 0) = _ := a1
    clear a1
    first
      | (have a2' : (Go.bits .and .i64 k 8 != 0) = _ := a2
         clear a2)
      | skip
    rcases hC with (⟨c1, c2, ec⟩ | ⟨c1, c2, c3, ec⟩) | (⟨c1, c2, ec⟩ | ⟨c1, c2, ec⟩)
    all_goals
      rw [ec] at hx
      clear ec
      have HX := Aside0.mk hx
      clear hx
      first
        | (have c2' : (Go.bits .and .i64 f.fl 32 != 0) = _ := c2
           clear c2)
        | skip
      go_enter Tryd.func60, Tryd.ntmps60
      go_wp2_with (go_at_call 58; refine (kindOf_calls f.ty k _ _ HG.out H0.out HK.out rfl).mono ?_; rintro e w5 ⟨rfl, hb⟩; have z0' := (HF.out.below (blk_lt HF.out) hb).c0; have z1' := (HF.out.below (blk_lt HF.out) hb).c1; have HB5 := Aside0.mk hb; clear hb)
      go_ret
      exact ⟨by rw [← HX.out]; rfl, by first | exact HB5.out | exact HB.out⟩
theorem ent74 (args : Array Value) (W : World) : (callFunc 74 args).run Tryd.prog W = .ok (.enter 74 args) W := enters_ Tryd.func74 (by kernel_rfl) rfl args W
theorem ent76 (args : Array Value) (W : World) : (callFunc 76 args).run Tryd.prog W = .ok (.enter 76 args) W := enters_ Tryd.func76 (by kernel_rfl) rfl args W
theorem ent78 (args : Array Value) (W : World) : (callFunc 78 args).run Tryd.prog W = .ok (.enter 78 args) W := enters_ Tryd.func78 (by kernel_rfl) rfl args W
theorem ent80 (args : Array Value) (W : World) : (callFunc 80 args).run Tryd.prog W = .ok (.enter 80 args) W := enters_ Tryd.func80 (by kernel_rfl) rfl args W
theorem ent82 (args : Array Value) (W : World) : (callFunc 82 args).run Tryd.prog W = .ok (.enter 82 args) W := enters_ Tryd.func82 (by kernel_rfl) rfl args W
theorem ent84 (args : Array Value) (W : World) : (callFunc 84 args).run Tryd.prog W = .ok (.enter 84 args) W := enters_ Tryd.func84 (by kernel_rfl) rfl args W
theorem ent86 (args : Array Value) (W : World) : (callFunc 86 args).run Tryd.prog W = .ok (.enter 86 args) W := enters_ Tryd.func86 (by kernel_rfl) rfl args W
theorem ent88 (args : Array Value) (W : World) : (callFunc 88 args).run Tryd.prog W = .ok (.enter 88 args) W := enters_ Tryd.func88 (by kernel_rfl) rfl args W
theorem ent89 (args : Array Value) (W : World) : (callFunc 89 args).run Tryd.prog W = .ok (.enter 89 args) W := enters_ Tryd.func89 (by kernel_rfl) rfl args W
/-- What a frame of the type takes of its payload; none: it is refused. -/
def takes (f : Fr) (p : ByteArray) : Option Fr :=
  if f.ty = 1 then some (headersF f p)
  else if f.ty = 2 then (if p.size = 5 then some (wtF f p) else none)
  else if f.ty = 3 then (if p.size = 4 then some { f with co := num p } else none)
  else if f.ty = 4 then (if p.size % 6 = 0 ∧ ¬ (has f.fl 1 = true ∧ 0 < p.size) then some { f with ps := pars (p.size / 6) p.data.toList } else none)
  else if f.ty = 5 then some (promiseF f p)
  else if f.ty = 6 then (if p.size = 8 then some { f with da := p } else none)
  else if f.ty = 7 then (if 8 ≤ p.size then some (goAwayF f p) else none)
  else if f.ty = 8 then (if p.size = 4 then some { f with la := num p % 2147483648 } else none)
  else some { f with da := p }
/-- What taking leaves: the frame it tells, or one of the same type and stream. -/
def Taken (w0 : World) (g : Nat) (f : Fr) (p : ByteArray) (x : Bool) (e : Ending) (w' : World) : Prop :=
  e = .returned (.bool x) ∧ ∃ f' A c, TInv w0 w' g f' A c ∧ f'.ty = f.ty ∧ f'.st = f.st ∧ (x = true → takes f p = some f' ∧ Kd.R k32 32 w' w0.heap.size (fun k => k ≠ g) (.slice A f'.ps.length c) f'.ps)
/-- Which function takes, and what it leaves. -/
def Takes (w0 w : World) (g N M : Nat) (f : Fr) (p : ByteArray) (x : Bool) : Prop :=
  (∀ W, Calls Tryd.prog 48 #[.int .i64 f.ty] W fun e w' => e = .returned (.agg #[.func (.func M) #[] #[], .func (.func N) #[] #[]]) ∧ Below W.heap.size W w') ∧
  (∀ w1, Below w.heap.size w w1 → Calls Tryd.prog N #[.pointer (some ⟨g, 0, none⟩), .string p] w1 (Taken w0 g f p x)) ∧
  (∀ (args : Array Value) (W : World), (callFunc N args).run Tryd.prog W = .ok (.enter N args) W)
theorem takes_yes {w0 w : World} {g N M : Nat} {f f' : Fr} {p : ByteArray} {x : Bool} (hx : (takes f p).isSome = x) (hr : takes f p = some f') (hp : ∀ W, Calls Tryd.prog 48 #[.int .i64 f.ty] W fun e w' => e = .returned (.agg #[.func (.func M) #[] #[], .func (.func N) #[] #[]]) ∧ Below W.heap.size W w') (hc : ∀ (args : Array Value) (W : World), (callFunc N args).run Tryd.prog W = .ok (.enter N args) W) (hty : f'.ty = f.ty) (hst : f'.st = f.st)
    (h : ∀ w1, Below w.heap.size w w1 → Calls Tryd.prog N #[.pointer (some ⟨g, 0, none⟩), .string p] w1 fun e w' => e = .returned (.bool true) ∧ ∃ A c, TInv w0 w' g f' A c ∧ Kd.R k32 32 w' w0.heap.size (fun k => k ≠ g) (.slice A f'.ps.length c) f'.ps) : Takes w0 w g N M f p x := by
  rw [hr] at hx
  subst hx
  refine ⟨hp, fun w1 hb => (h w1 hb).mono ?_, hc⟩
  rintro e w' ⟨rfl, A, c, ht, hk⟩
  exact ⟨rfl, f', A, c, ht, hty, hst, fun _ => ⟨hr, hk⟩⟩
theorem takes_yes0 {w0 w : World} {g N M : Nat} {f f' : Fr} {p : ByteArray} {x : Bool} (hx : (takes f p).isSome = x) (hr : takes f p = some f') (hp : ∀ W, Calls Tryd.prog 48 #[.int .i64 f.ty] W fun e w' => e = .returned (.agg #[.func (.func M) #[] #[], .func (.func N) #[] #[]]) ∧ Below W.heap.size W w') (hc : ∀ (args : Array Value) (W : World), (callFunc N args).run Tryd.prog W = .ok (.enter N args) W) (hty : f'.ty = f.ty) (hst : f'.st = f.st) (hnil : f'.ps = [])
    (h : ∀ w1, Below w.heap.size w w1 → Calls Tryd.prog N #[.pointer (some ⟨g, 0, none⟩), .string p] w1 fun e w' => e = .returned (.bool true) ∧ TInv w0 w' g f' none 0) : Takes w0 w g N M f p x := by
  refine takes_yes hx hr hp hc hty hst fun w1 hb => (h w1 hb).mono ?_
  rintro e w' ⟨rfl, ht⟩
  refine ⟨rfl, none, 0, ht, ?_⟩
  rw [hnil]
  exact Kd.R_nil _ _ _ _ _
theorem takes_no {w0 w : World} {g N M : Nat} {f : Fr} {p : ByteArray} {x : Bool} (hx : (takes f p).isSome = x) (hr : takes f p = none) (hp : ∀ W, Calls Tryd.prog 48 #[.int .i64 f.ty] W fun e w' => e = .returned (.agg #[.func (.func M) #[] #[], .func (.func N) #[] #[]]) ∧ Below W.heap.size W w') (hc : ∀ (args : Array Value) (W : World), (callFunc N args).run Tryd.prog W = .ok (.enter N args) W)
    (h : ∀ w1, Below w.heap.size w w1 → Calls Tryd.prog N #[.pointer (some ⟨g, 0, none⟩), .string p] w1 fun e w' => e = .returned (.bool false) ∧ ∃ f', f'.ty = f.ty ∧ f'.st = f.st ∧ TInv w0 w' g f' none 0) : Takes w0 w g N M f p x := by
  rw [hr] at hx
  subst hx
  refine ⟨hp, fun w1 hb => (h w1 hb).mono ?_, hc⟩
  rintro e w' ⟨rfl, f', h1, h2, h3⟩
  exact ⟨rfl, f', none, 0, h3, h1, h2, fun h => absurd h (by simp)⟩
theorem same_no {w0 w' : World} {g : Nat} {f : Fr} {e : Ending} (h : e = .returned (.bool false) ∧ TInv w0 w' g f none 0) : e = .returned (.bool false) ∧ ∃ f', f'.ty = f.ty ∧ f'.st = f.st ∧ TInv w0 w' g f' none 0 := ⟨h.1, f, rfl, rfl, h.2⟩
theorem take_any (g : Nat) (f : Fr) (p : ByteArray) (x : Bool) (w0 w : World) (hT : TInv w0 w g f none 0) (hnil : f.ps = []) (h63 : p.size ≤ 65536) (h1 : f.ty = 1 → has f.fl 32 = true → 5 ≤ p.size) (h5 : f.ty = 5 → 4 ≤ p.size) (hx : (takes f p).isSome = x) : ∃ N M, Takes w0 w g N M f p x := by
  have hs : p.size ≤ 9223372036854775807 := by omega
  by_cases t1 : f.ty = 1
  · refine ⟨74, 73, takes_yes0 (f' := headersF f p) hx (by unfold takes; rw [if_pos t1]) (payloadOf_1 _ t1) ent74 (by unfold headersF; split <;> rfl) (by unfold headersF; split <;> rfl) (by unfold headersF; split <;> exact hnil) fun w1 hb => takeHeaders_calls g f none 0 p w0 w1 (hT.below hb).own (hT.below hb).low hT.ge (h1 t1)⟩
  by_cases t2 : f.ty = 2
  · by_cases hc : p.size = 5
    · exact ⟨76, 75, takes_yes0 (f' := wtF f p) hx (by unfold takes; rw [if_neg t1, if_pos t2, if_pos hc]) (payloadOf_2 _ t2) ent76 rfl rfl hnil fun w1 hb => takePriority_yes g f none 0 p w0 w1 (hT.below hb).own (hT.below hb).low hT.ge hc⟩
    · exact ⟨76, 75, takes_no hx (by unfold takes; rw [if_neg t1, if_pos t2, if_neg hc]) (payloadOf_2 _ t2) ent76 fun w1 hb => (takePriority_no g f none 0 p w0 w1 (hT.below hb).own (hT.below hb).low hT.ge hc).mono fun _ _ => same_no⟩
  by_cases t3 : f.ty = 3
  · by_cases hc : p.size = 4
    · exact ⟨78, 77, takes_yes0 (f' := { f with co := num p }) hx (by unfold takes; rw [if_neg t1, if_neg t2, if_pos t3, if_pos hc]) (payloadOf_3 _ t3) ent78 rfl rfl hnil fun w1 hb => takeReset_yes g f none 0 p w0 w1 (hT.below hb).own (hT.below hb).low hT.ge hc⟩
    · exact ⟨78, 77, takes_no hx (by unfold takes; rw [if_neg t1, if_neg t2, if_pos t3, if_neg hc]) (payloadOf_3 _ t3) ent78 fun w1 hb => takeReset_no g f none 0 p w0 w1 (hT.below hb).own (hT.below hb).low hT.ge hc hs⟩
  by_cases t4 : f.ty = 4
  · by_cases hc : p.size % 6 = 0 ∧ ¬ (has f.fl 1 = true ∧ 0 < p.size)
    · refine ⟨80, 79, takes_yes (f' := { f with ps := pars (p.size / 6) p.data.toList }) hx (by unfold takes; rw [if_neg t1, if_neg t2, if_neg t3, if_pos t4, if_pos hc]) (payloadOf_4 _ t4) ent80 rfl rfl fun w1 hb => (takeParams_yes g f p (p.size / 6) w0 w1 (hT.below hb).own hnil (hT.below hb).low hT.ge (by omega) ?_ h63).mono ?_⟩
      · cases hh : has f.fl 1
        · exact .inl rfl
        · refine .inr ?_
          have := hc.2
          rw [hh] at this
          simp only [true_and] at this
          omega
      · rintro e w' ⟨rfl, A, c, hp⟩
        refine ⟨rfl, A, c, hp.inv, ?_⟩
        have h := hp.row
        show Kd.R k32 32 w' w0.heap.size (fun k => k ≠ g) (.slice A (pars (p.size / 6) p.data.toList).length c) (pars (p.size / 6) p.data.toList)
        rw [pars_length]
        exact h
    · refine ⟨80, 79, takes_no hx (by unfold takes; rw [if_neg t1, if_neg t2, if_neg t3, if_pos t4, if_neg hc]) (payloadOf_4 _ t4) ent80 fun w1 hb => (takeParams_no g f none 0 p w0 w1 (hT.below hb).own (hT.below hb).low hT.ge ?_ hs).mono fun _ _ => same_no⟩
      by_cases h6 : p.size % 6 = 0
      · exact .inr (Classical.byContradiction fun h => hc ⟨h6, h⟩)
      · exact .inl (eq_false h6)
  by_cases t5 : f.ty = 5
  · exact ⟨82, 81, takes_yes0 (f' := promiseF f p) hx (by unfold takes; rw [if_neg t1, if_neg t2, if_neg t3, if_neg t4, if_pos t5]) (payloadOf_5 _ t5) ent82 rfl rfl hnil fun w1 hb => takePromise_calls g f none 0 p w0 w1 (hT.below hb).own (hT.below hb).low hT.ge (h5 t5)⟩
  by_cases t6 : f.ty = 6
  · by_cases hc : p.size = 8
    · exact ⟨84, 83, takes_yes0 (f' := { f with da := p }) hx (by unfold takes; rw [if_neg t1, if_neg t2, if_neg t3, if_neg t4, if_neg t5, if_pos t6, if_pos hc]) (payloadOf_6 _ t6) ent84 rfl rfl hnil fun w1 hb => takePing_calls g f none 0 p w0 w1 (hT.below hb).own (hT.below hb).low hT.ge true (by rw [hc]; rfl) hs⟩
    · exact ⟨84, 83, takes_no hx (by unfold takes; rw [if_neg t1, if_neg t2, if_neg t3, if_neg t4, if_neg t5, if_pos t6, if_neg hc]) (payloadOf_6 _ t6) ent84 fun w1 hb => (takePing_calls g f none 0 p w0 w1 (hT.below hb).own (hT.below hb).low hT.ge false (beq_eq_false_iff_ne.mpr (by omega)) hs).mono fun _ _ h => ⟨h.1, { f with da := p }, rfl, rfl, h.2⟩⟩
  by_cases t7 : f.ty = 7
  · by_cases hc : 8 ≤ p.size
    · exact ⟨86, 85, takes_yes0 (f' := goAwayF f p) hx (by unfold takes; rw [if_neg t1, if_neg t2, if_neg t3, if_neg t4, if_neg t5, if_neg t6, if_pos t7, if_pos hc]) (payloadOf_7 _ t7) ent86 rfl rfl hnil fun w1 hb => takeGoAway_yes g f none 0 p w0 w1 (hT.below hb).own (hT.below hb).low hT.ge hc⟩
    · exact ⟨86, 85, takes_no hx (by unfold takes; rw [if_neg t1, if_neg t2, if_neg t3, if_neg t4, if_neg t5, if_neg t6, if_pos t7, if_neg hc]) (payloadOf_7 _ t7) ent86 fun w1 hb => (takeGoAway_no g f none 0 p w0 w1 (hT.below hb).own (hT.below hb).low hT.ge (by omega)).mono fun _ _ => same_no⟩
  by_cases t8 : f.ty = 8
  · by_cases hc : p.size = 4
    · exact ⟨88, 87, takes_yes0 (f' := { f with la := num p % 2147483648 }) hx (by unfold takes; rw [if_neg t1, if_neg t2, if_neg t3, if_neg t4, if_neg t5, if_neg t6, if_neg t7, if_pos t8, if_pos hc]) (payloadOf_8 _ t8) ent88 rfl rfl hnil fun w1 hb => takeWindow_yes g f none 0 p w0 w1 (hT.below hb).own (hT.below hb).low hT.ge hc⟩
    · exact ⟨88, 87, takes_no hx (by unfold takes; rw [if_neg t1, if_neg t2, if_neg t3, if_neg t4, if_neg t5, if_neg t6, if_neg t7, if_pos t8, if_neg hc]) (payloadOf_8 _ t8) ent88 fun w1 hb => (takeWindow_no g f none 0 p w0 w1 (hT.below hb).own (hT.below hb).low hT.ge hc).mono fun _ _ => same_no⟩
  exact ⟨89, 83, takes_yes0 (f' := { f with da := p }) hx (by unfold takes; rw [if_neg t1, if_neg t2, if_neg t3, if_neg t4, if_neg t5, if_neg t6, if_neg t7, if_neg t8]) (payloadOf_else _ (by omega)) ent89 rfl rfl hnil fun w1 hb => takeData_calls g f none 0 p w0 w1 (hT.below hb).own (hT.below hb).low hT.ge⟩
end Go.Proofs.YtoffhlbdfhhhjaaDoor.Fr
