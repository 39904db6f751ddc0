/- Plain facts of lists applied to a set: one behind another; the last of a field counts; the ranges. No condition but those in each statement. -/
import Derived.Test.YtcjphkgmcfpfeaaDoorMSetF
namespace Go.Proofs.YtcjphkgmcfpfeaaDoor.QL
open Go.RowKit Go.Proofs.YtcjphkgmcfpfeaaDoorW.PrintWords Go.Proofs.YtcjphkgmcfpfeaaDoorW.PrintLast Go.Proofs.YtcjphkgmcfpfeaaDoorW.PrintMore
set_option linter.unusedVariables false
structure S23 where
  f0 : Int
  f1 : Int
  f2 : Int
  f3 : Int
  f4 : Int
  f5 : Int
def k23 : Kd S23 := Kd.iso (Kd.pair (Kd.int .i64) (Kd.pair (Kd.int .i64) (Kd.pair (Kd.int .i64) (Kd.pair (Kd.int .i64) (Kd.pair (Kd.int .i64) (Kd.int .i64)))))) (fun x : S23 => (x.f0, x.f1, x.f2, x.f3, x.f4, x.f5))
theorem k23_open {w : Go.World} {x : S23} {cs : List Go.Value} (h : k23.K w x cs) : cs = [.int .i64 x.f0, .int .i64 x.f1, .int .i64 x.f2, .int .i64 x.f3, .int .i64 x.f4, .int .i64 x.f5] := by
  obtain ⟨_, _, rfl, rfl, ⟨_, _, rfl, rfl, ⟨_, _, rfl, rfl, ⟨_, _, rfl, rfl, ⟨_, _, rfl, rfl, rfl⟩⟩⟩⟩⟩ := h
  exact rfl
end Go.Proofs.YtcjphkgmcfpfeaaDoor.QL
namespace Go.Proofs.YtcjphkgmcfpfeaaDoor.MS
open Go Go.RowKit Go.Proofs.YtcjphkgmcfpfeaaDoorW.PrintWords Go.Proofs.YtcjphkgmcfpfeaaDoorW.PrintLast Go.Proofs.YtcjphkgmcfpfeaaDoorW.PrintMore Go.Proofs.YtcjphkgmcfpfeaaDoor.QL
set_option linter.unusedSimpArgs false
set_option linter.unusedVariables false
set_option maxHeartbeats 4000000
theorem badL_apply' (cl : Bool) (s : St) (l : List S28) : (badL cl l = true ↔ (apply cl s l).2 ≠ 0) := by
  induction l generalizing s with
  | nil => simp [badL, apply]
  | cons p t ih =>
    unfold badL apply
    by_cases h : valid p.f0 p.f1 cl = 0
    · rw [if_pos h, if_pos h]; exact ih _
    · rw [if_neg h, if_neg h]; simp [h]
theorem apply_bad (cl : Bool) (s : St) (l : List S28) (h : badL cl l = true) : (apply cl s l).1 = St.zero := by
  induction l generalizing s with
  | nil => simp [badL] at h
  | cons p t ih =>
    unfold badL at h
    unfold apply
    by_cases h1 : valid p.f0 p.f1 cl = 0
    · rw [if_pos h1] at h ⊢; exact ih _ h
    · rw [if_neg h1]
theorem apply_cons (cl : Bool) (s : St) (p : S28) (t : List S28) : apply cl s (p :: t) = if valid p.f0 p.f1 cl = 0 then apply cl (put s p.f0 p.f1) t else (St.zero, valid p.f0 p.f1 cl) := rfl
theorem badL_cons (cl : Bool) (p : S28) (t : List S28) : badL cl (p :: t) = if valid p.f0 p.f1 cl = 0 then badL cl t else true := rfl
theorem apply_append (cl : Bool) (s : St) (l k : List S28) : apply cl s (l ++ k) = if badL cl l = true then apply cl s l else apply cl (apply cl s l).1 k := by
  induction l generalizing s with
  | nil => simp [badL, apply]
  | cons p t ih =>
    rw [List.cons_append, apply_cons, apply_cons, badL_cons]
    by_cases h1 : valid p.f0 p.f1 cl = 0
    · rw [if_pos h1, if_pos h1, if_pos h1]; exact ih _
    · rw [if_neg h1, if_neg h1, if_neg h1]; simp
theorem badL_take (cl : Bool) (l : List S28) (k : Nat) (h : k < l.length) : badL cl (l.take (k + 1)) = (badL cl (l.take k) || (valid (rd_T28 l (k : Int)).f0 (rd_T28 l (k : Int)).f1 cl != 0)) := by
  induction l generalizing k with
  | nil => simp at h
  | cons p t ih =>
    cases k with
    | zero =>
      have e : rd_T28 (p :: t) ((0 : Nat) : Int) = p := rfl
      rw [e]
      simp only [List.take_succ_cons, List.take_zero, badL, Bool.false_or]
      by_cases h1 : valid p.f0 p.f1 cl = 0
      · simp [h1]
      · simp [h1]
    | succ k =>
      have e : rd_T28 (p :: t) ((k + 1 : Nat) : Int) = rd_T28 t (k : Int) := by simp [rd_T28]
      rw [e, List.take_succ_cons, List.take_succ_cons]
      unfold badL
      by_cases h1 : valid p.f0 p.f1 cl = 0
      · rw [if_pos h1, if_pos h1]; exact ih k (by simpa using h)
      · rw [if_neg h1, if_neg h1]; simp
/-- Those that no later one of their field follows. -/
def lastOf : List S28 → List S28
  | [] => []
  | p :: t => if t.any (fun q => q.f0 == p.f0) = true then lastOf t else p :: lastOf t
theorem put_put (s : St) (id v v' : Int) : put (put s id v) id v' = put s id v' := by
  unfold put
  repeat' split
  all_goals simp_all
theorem put_comm (s : St) (id v id' v' : Int) (h : id ≠ id') : put (put s id v) id' v' = put (put s id' v') id v := by
  by_cases h1 : 1 ≤ id ∧ id ≤ 6
  · by_cases h2 : 1 ≤ id' ∧ id' ≤ 6
    · obtain rfl | rfl | rfl | rfl | rfl | rfl : id = 1 ∨ id = 2 ∨ id = 3 ∨ id = 4 ∨ id = 5 ∨ id = 6 := by omega
      all_goals
        obtain rfl | rfl | rfl | rfl | rfl | rfl : id' = 1 ∨ id' = 2 ∨ id' = 3 ∨ id' = 4 ∨ id' = 5 ∨ id' = 6 := by omega
        all_goals first | (exfalso; omega) | simp [put]
    · rw [put_other _ _ _ h2, put_other _ _ _ h2]
  · rw [put_other _ _ _ h1, put_other _ _ _ h1]
theorem apply_over (cl : Bool) (s : St) (id v : Int) (t : List S28) (hb : badL cl t = false) (h : t.any (fun q => q.f0 == id) = true) : apply cl (put s id v) t = apply cl s t := by
  induction t generalizing s with
  | nil => simp at h
  | cons q t ih =>
    unfold badL at hb
    by_cases h1 : valid q.f0 q.f1 cl = 0
    · rw [if_pos h1] at hb
      unfold apply
      rw [if_pos h1, if_pos h1]
      by_cases h2 : q.f0 = id
      · subst h2; rw [put_put]
      · rw [put_comm _ _ _ _ _ (fun e => h2 e.symm)]
        refine ih _ hb ?_
        have : (q.f0 == id) = false := beq_eq_false_iff_ne.mpr h2
        simpa [this] using h
    · rw [if_neg h1] at hb; cases hb
theorem apply_last (cl : Bool) (s : St) (l : List S28) (hb : badL cl l = false) : apply cl s (lastOf l) = apply cl s l := by
  induction l generalizing s with
  | nil => rfl
  | cons p t ih =>
    unfold badL at hb
    by_cases h1 : valid p.f0 p.f1 cl = 0
    · rw [if_pos h1] at hb
      unfold lastOf
      by_cases h2 : t.any (fun q => q.f0 == p.f0) = true
      · rw [if_pos h2, ih _ hb]
        conv => rhs; unfold apply
        rw [if_pos h1, apply_over cl s p.f0 p.f1 t hb h2]
      · rw [if_neg h2]
        unfold apply
        rw [if_pos h1, if_pos h1]
        exact ih _ hb
    · rw [if_neg h1] at hb; cases hb
/-- The ranges of what comes of a list that is taken. -/
structure Ok (s : St) : Prop where
  a0 : 0 ≤ s.a
  a1 : s.a ≤ 2147483647
  b : s.b = 0 ∨ s.b = 1
  c0 : 0 ≤ s.c
  c1 : s.c ≤ 2147483647
  d0 : 0 ≤ s.d
  d1 : s.d ≤ 2147483647
  e0 : 16384 ≤ s.e
  e1 : s.e ≤ 65536
  f0 : 0 ≤ s.f
  f1 : s.f ≤ 2147483647
theorem valid_ranges (id v : Int) (cl : Bool) (h : valid id v cl = 0) : 0 ≤ v ∧ (id = 2 → v ≤ 1) ∧ (id = 5 → 16384 ≤ v) := by
  unfold valid at h
  split at h
  · cases h
  · split at h
    · split at h
      · cases h
      · exact ⟨by omega, by omega, by omega⟩
    · split at h
      · exact ⟨by omega, by omega, by omega⟩
      · split at h
        · split at h
          · cases h
          · exact ⟨by omega, by omega, by omega⟩
        · exact ⟨by omega, by omega, by omega⟩
theorem put_ok (s : St) (id v : Int) (cl : Bool) (h : Ok s) (hv : valid id v cl = 0) : Ok (put s id v) := by
  obtain ⟨h0, h2, h5⟩ := valid_ranges id v cl hv
  by_cases h1 : 1 ≤ id ∧ id ≤ 6
  · obtain ⟨a0, a1, b, c0, c1, d0, d1, e0, e1, f0, f1⟩ := h
    obtain rfl | rfl | rfl | rfl | rfl | rfl : id = 1 ∨ id = 2 ∨ id = 3 ∨ id = 4 ∨ id = 5 ∨ id = 6 := by omega
    all_goals constructor <;> simp [put, mn, top] <;> (try split) <;> omega
  · rw [put_other _ _ _ h1]; exact h
theorem apply_ok (cl : Bool) (s : St) (l : List S28) (h : Ok s) (hb : badL cl l = false) : Ok (apply cl s l).1 := by
  induction l generalizing s with
  | nil => exact h
  | cons p t ih =>
    unfold badL at hb
    by_cases h1 : valid p.f0 p.f1 cl = 0
    · rw [if_pos h1] at hb
      unfold apply
      rw [if_pos h1]
      exact ih _ (put_ok s _ _ cl h h1) hb
    · rw [if_neg h1] at hb; cases hb
theorem may_ok (s : St) (h : Ok s) : heraldlaw08_may.f s.a s.b s.c s.d s.e s.f = some true := by
  obtain ⟨a0, a1, b, c0, c1, d0, d1, e0, e1, f0, f1⟩ := h
  unfold heraldlaw08_may.f
  rcases b with b | b
  · rw [if_pos a0, if_pos a1, if_pos b, if_pos c0, if_pos c1, if_pos d0, if_pos d1, if_pos e0, if_pos e1, if_pos f0, decide_eq_true f1]
  · rw [if_pos a0, if_pos a1, if_neg (by omega), if_pos b, if_pos c0, if_pos c1, if_pos d0, if_pos d1, if_pos e0, if_pos e1, if_pos f0, decide_eq_true f1]
theorem and_le (x : Int) (m : Nat) (hm : m < 2 ^ 63) : 0 ≤ bits BinOp.and IntKind.i64 x m ∧ bits BinOp.and IntKind.i64 x m ≤ m := by
  have e : (BitVec.ofInt 64 (m : Int)).toNat = m := by
    rw [BitVec.toNat_ofInt]; omega
  have h : (BitVec.ofInt 64 x &&& BitVec.ofInt 64 (m : Int)).toNat ≤ m := by
    rw [BitVec.toNat_and, e]; exact Nat.and_le_right
  show 0 ≤ IntKind.wrap .i64 (((BitVec.ofInt 64 x &&& BitVec.ofInt 64 (m : Int)).toNat : Nat) : Int) ∧ IntKind.wrap .i64 (((BitVec.ofInt 64 x &&& BitVec.ofInt 64 (m : Int)).toNat : Nat) : Int) ≤ m
  generalize (BitVec.ofInt 64 x &&& BitVec.ofInt 64 (m : Int)).toNat = y at h
  have : IntKind.wrap .i64 (y : Int) = y := by
    rw [i64_w]; unfold wrap64; omega
  rw [this]; omega
/-- A set that fits, of any. -/
def made (s : St) : St := ⟨bits .and .i64 s.a 65535, bits .and .i64 s.b 1, bits .and .i64 s.c 2147483647, bits .and .i64 s.d 2147483647, wrap64 (16384 + (bits .and .i64 s.e 32767)), wrap64 (1024 + (bits .and .i64 s.f 65535))⟩
structure Fit (s : St) : Prop where
  a0 : 0 ≤ s.a
  a1 : s.a ≤ 65535
  b0 : 0 ≤ s.b
  b1 : s.b ≤ 1
  c0 : 0 ≤ s.c
  c1 : s.c ≤ 2147483647
  d0 : 0 ≤ s.d
  d1 : s.d ≤ 2147483647
  e0 : 16384 ≤ s.e
  e1 : s.e ≤ 49151
  f0 : 1024 ≤ s.f
  f1 : s.f ≤ 66559
theorem made_fit (s : St) : Fit (made s) := by
  have h1 : 0 ≤ bits BinOp.and IntKind.i64 s.a 65535 ∧ bits BinOp.and IntKind.i64 s.a 65535 ≤ 65535 := and_le s.a 65535 (by decide)
  have h2 : 0 ≤ bits BinOp.and IntKind.i64 s.b 1 ∧ bits BinOp.and IntKind.i64 s.b 1 ≤ 1 := and_le s.b 1 (by decide)
  have h3 : 0 ≤ bits BinOp.and IntKind.i64 s.c 2147483647 ∧ bits BinOp.and IntKind.i64 s.c 2147483647 ≤ 2147483647 := and_le s.c 2147483647 (by decide)
  have h4 : 0 ≤ bits BinOp.and IntKind.i64 s.d 2147483647 ∧ bits BinOp.and IntKind.i64 s.d 2147483647 ≤ 2147483647 := and_le s.d 2147483647 (by decide)
  have h5 : 0 ≤ bits BinOp.and IntKind.i64 s.e 32767 ∧ bits BinOp.and IntKind.i64 s.e 32767 ≤ 32767 := and_le s.e 32767 (by decide)
  have h6 : 0 ≤ bits BinOp.and IntKind.i64 s.f 65535 ∧ bits BinOp.and IntKind.i64 s.f 65535 ≤ 65535 := and_le s.f 65535 (by decide)
  have e5 : wrap64 (16384 + (bits .and .i64 s.e 32767)) = 16384 + bits .and .i64 s.e 32767 := by unfold wrap64; omega
  have e6 : wrap64 (1024 + (bits .and .i64 s.f 65535)) = 1024 + bits .and .i64 s.f 65535 := by unfold wrap64; omega
  constructor <;> simp only [made, e5, e6] <;> omega
theorem Fit.ok {s : St} (h : Fit s) : Ok s := by
  obtain ⟨a0, a1, b0, b1, c0, c1, d0, d1, e0, e1, f0, f1⟩ := h
  constructor <;> omega
theorem fits_of {s : St} (a0 : 0 ≤ s.a) (a1 : s.a ≤ 65536) (b0 : 0 ≤ s.b) (b1 : s.b ≤ 1) (c0 : 0 ≤ s.c) (c1 : s.c ≤ 2147483647) (d0 : 0 ≤ s.d) (d1 : s.d ≤ 2147483647) (e0 : 16384 ≤ s.e) (e1 : s.e ≤ 65536) (f0 : 1024 ≤ s.f) (f1 : s.f ≤ 2147483647) : setting_Fits.f s.a s.b s.c s.d s.e s.f = some true := by
  unfold setting_Fits.f setting_within.f
  simp [show s.a ≥ 0 from a0, show s.b ≥ 0 from b0, show s.c ≥ 0 from c0, show s.d ≥ 0 from d0, show s.e ≥ 16384 from e0, show s.f ≥ 1024 from f0, a1, b1, c1, d1, e1, f1]
theorem Fit.fits {s : St} (h : Fit s) : setting_Fits.f s.a s.b s.c s.d s.e s.f = some true :=
  fits_of h.a0 (by have := h.a1; omega) h.b0 h.b1 h.c0 h.c1 h.d0 h.d1 h.e0 (by have := h.e1; omega) h.f0 (by have := h.f1; omega)
end Go.Proofs.YtcjphkgmcfpfeaaDoor.MS
