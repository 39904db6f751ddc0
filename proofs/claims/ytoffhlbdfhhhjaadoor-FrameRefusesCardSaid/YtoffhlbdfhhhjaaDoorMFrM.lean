/- Frames out of bytes: the right frame that the laws make out of any. The frame lies in a block of the call's own. -/
import Derived.Test.YtoffhlbdfhhhjaaDoorMFrX
namespace Go.Proofs.YtoffhlbdfhhhjaaDoor.Fr
open Go Go.RowKit Go.Proofs.YtoffhlbdfhhhjaaDoorW.PrintWords Go.Proofs.YtoffhlbdfhhhjaaDoorW.PrintLast Go.Proofs.YtoffhlbdfhhhjaaDoorW.PrintMore Go.Proofs.YtoffhlbdfhhhjaaDoor.QL
set_option linter.unusedSimpArgs false
set_option linter.unusedVariables false
set_option maxHeartbeats 40000000
set_option maxRecDepth 100000
theorem TInv.put0 {w0 w : World} {g : Nat} {f : Fr} {A : Option Addr} {c : Nat} (r : TInv w0 w g f A c) (x : Int) : TInv w0 (w.setCell ⟨g, 0, none⟩ (.int .i64 x)) g { f with ty := x } A c :=
  ⟨by have hb := blk_set r.own 0 (.int .i64 x); simpa [At, Fr.cells] using hb, r.low.setCell (p := ⟨g, 0, none⟩) r.ge _, r.ge⟩
theorem TInv.put2 {w0 w : World} {g : Nat} {f : Fr} {A : Option Addr} {c : Nat} (r : TInv w0 w g f A c) (x : Int) : TInv w0 (w.setCell ⟨g, 2, none⟩ (.int .i64 x)) g { f with st := x } A c :=
  ⟨by have hb := blk_set r.own 2 (.int .i64 x); simpa [At, Fr.cells] using hb, r.low.setCell (p := ⟨g, 2, none⟩) r.ge _, r.ge⟩
theorem and_le (x : Int) (m : Nat) (hm : m < 9223372036854775808) : 0 ≤ Go.bits .and .i64 x (m : Int) ∧ Go.bits .and .i64 x (m : Int) ≤ (m : Int) := by
  have e : Go.bits .and .i64 x (m : Int) = IntKind.i64.wrap (((BitVec.ofInt 64 x).toNat &&& m : Nat) : Int) := by
    have h64 : m % 2 ^ 64 = m := Nat.mod_eq_of_lt (by omega)
    show IntKind.i64.wrap _ = _
    simp only [BitVec.ofInt_natCast, BitVec.toNat_and, BitVec.toNat_ofNat]
    show IntKind.i64.wrap ((((BitVec.ofInt 64 x).toNat &&& (m % 2 ^ 64) : Nat)) : Int) = _
    rw [h64]
  have h : (BitVec.ofInt 64 x).toNat &&& m ≤ m := Nat.and_le_right
  rw [e, IntWalk.i64_in _ (by omega)]
  omega
theorem and_255 (x : Int) : 0 ≤ Go.bits .and .i64 x 255 ∧ Go.bits .and .i64 x 255 ≤ 255 := and_le x 255 (by decide)
/-- The type of the frame made. -/
def mTy (ex : Bool) (x : Int) : Int := if ex = true then Int.tmod (Go.bits .and .i64 x 255) 10 else Go.bits .and .i64 x 255
def mS1 (t : Int) : Bool := decide (t < 4) || (t == 5) || decide (7 < t)
def mS2 (t s : Int) : Bool := (decide (t < 4) || (t == 5) || (t == 9)) && (s == 0)
def mP (t fl : Int) : Bool := ((t == 0) || (t == 1) || (t == 5)) && (Go.bits .and .i64 fl 8 != 0)
def mW (t fl : Int) : Bool := (t == 2) || ((t == 1) && (Go.bits .and .i64 fl 32 != 0))
def mC (t : Int) : Bool := (t == 3) || (t == 7)
def mL (t : Int) : Bool := (t == 5) || (t == 7) || (t == 8)
def mQ (t fl : Int) : Bool := (t == 4) && (fl == 0)
def few1 (p : S32) : S32 := ⟨Go.bits .and .i64 p.f0 65535, Go.bits .and .i64 p.f1 4294967295⟩
def fewL (l : List S32) : List S32 := (l.take 2730).map few1
def z8 : ByteArray := ⟨#[0, 0, 0, 0, 0, 0, 0, 0]⟩
def mD0 (t : Int) (d : ByteArray) : ByteArray := if t = 0 ∨ t = 1 ∨ t = 5 ∨ t = 7 ∨ t = 9 then d else if t = 6 then (d ++ z8).extract 0 8 else ByteArray.empty
def mD1 (t : Int) (d : ByteArray) : ByteArray := if 9 < t then d else mD0 t d
def mDa (t : Int) (d : ByteArray) : ByteArray := if 60000 < (mD1 t d).size then (mD1 t d).extract 0 60000 else mD1 t d
def mSt1 (t x : Int) : Int := if mS1 t = true then Go.bits .and .i64 x 2147483647 else 0
def mSt (t x : Int) : Int := if mS2 t (mSt1 t x) = true then 1 else mSt1 t x
/-- The right frame made out of any. -/
def madeT (f : Fr) (t fl : Int) : Fr := ⟨t, fl, mSt t f.st, mDa t f.da, if mP t fl = true then Go.bits .and .i64 f.pad 255 else 0, if mW t fl = true then Go.bits .and .i64 f.dep 2147483647 else 0, if mW t fl = true then (Go.bits .and .i64 f.wt 256 != 0) else false, if mW t fl = true then Go.bits .and .i64 f.wt 255 + 1 else 0, if mC t = true then Go.bits .and .i64 f.co 4294967295 else 0, if mL t = true then Go.bits .and .i64 f.la 2147483647 else 0, if mQ t fl = true then fewL f.ps else []⟩
def madeF (f : Fr) : Fr := madeT f (mTy f.ex f.ty) (Go.bits .and .i64 f.fl (kFl (mTy f.ex f.ty)))
theorem mTy_range (ex : Bool) (x : Int) : 0 ≤ mTy ex x ∧ mTy ex x ≤ 255 := by
  have h := and_255 x
  unfold mTy
  split
  · rw [Int.tmod_eq_emod_of_nonneg h.1]
    omega
  · exact h
theorem flagI0 (w : World) : (Instr.index 106 (.agg #[.int .i64 9, .int .i64 45, .int .i64 0, .int .i64 0, .int .i64 1, .int .i64 12, .int .i64 1, .int .i64 0, .int .i64 0, .int .i64 4]) (.int .i64 0)).run Tryd.prog w = .ok (.int .i64 9) w := by kernel_rfl
theorem flagI1 (w : World) : (Instr.index 106 (.agg #[.int .i64 9, .int .i64 45, .int .i64 0, .int .i64 0, .int .i64 1, .int .i64 12, .int .i64 1, .int .i64 0, .int .i64 0, .int .i64 4]) (.int .i64 1)).run Tryd.prog w = .ok (.int .i64 45) w := by kernel_rfl
theorem flagI2 (w : World) : (Instr.index 106 (.agg #[.int .i64 9, .int .i64 45, .int .i64 0, .int .i64 0, .int .i64 1, .int .i64 12, .int .i64 1, .int .i64 0, .int .i64 0, .int .i64 4]) (.int .i64 2)).run Tryd.prog w = .ok (.int .i64 0) w := by kernel_rfl
theorem flagI3 (w : World) : (Instr.index 106 (.agg #[.int .i64 9, .int .i64 45, .int .i64 0, .int .i64 0, .int .i64 1, .int .i64 12, .int .i64 1, .int .i64 0, .int .i64 0, .int .i64 4]) (.int .i64 3)).run Tryd.prog w = .ok (.int .i64 0) w := by kernel_rfl
theorem flagI4 (w : World) : (Instr.index 106 (.agg #[.int .i64 9, .int .i64 45, .int .i64 0, .int .i64 0, .int .i64 1, .int .i64 12, .int .i64 1, .int .i64 0, .int .i64 0, .int .i64 4]) (.int .i64 4)).run Tryd.prog w = .ok (.int .i64 1) w := by kernel_rfl
theorem flagI5 (w : World) : (Instr.index 106 (.agg #[.int .i64 9, .int .i64 45, .int .i64 0, .int .i64 0, .int .i64 1, .int .i64 12, .int .i64 1, .int .i64 0, .int .i64 0, .int .i64 4]) (.int .i64 5)).run Tryd.prog w = .ok (.int .i64 12) w := by kernel_rfl
theorem flagI6 (w : World) : (Instr.index 106 (.agg #[.int .i64 9, .int .i64 45, .int .i64 0, .int .i64 0, .int .i64 1, .int .i64 12, .int .i64 1, .int .i64 0, .int .i64 0, .int .i64 4]) (.int .i64 6)).run Tryd.prog w = .ok (.int .i64 1) w := by kernel_rfl
theorem flagI7 (w : World) : (Instr.index 106 (.agg #[.int .i64 9, .int .i64 45, .int .i64 0, .int .i64 0, .int .i64 1, .int .i64 12, .int .i64 1, .int .i64 0, .int .i64 0, .int .i64 4]) (.int .i64 7)).run Tryd.prog w = .ok (.int .i64 0) w := by kernel_rfl
theorem flagI8 (w : World) : (Instr.index 106 (.agg #[.int .i64 9, .int .i64 45, .int .i64 0, .int .i64 0, .int .i64 1, .int .i64 12, .int .i64 1, .int .i64 0, .int .i64 0, .int .i64 4]) (.int .i64 8)).run Tryd.prog w = .ok (.int .i64 0) w := by kernel_rfl
theorem flagI9 (w : World) : (Instr.index 106 (.agg #[.int .i64 9, .int .i64 45, .int .i64 0, .int .i64 0, .int .i64 1, .int .i64 12, .int .i64 1, .int .i64 0, .int .i64 0, .int .i64 4]) (.int .i64 9)).run Tryd.prog w = .ok (.int .i64 4) w := by kernel_rfl
theorem flags_calls (t x : Int) (w : World) (h0 : 0 ≤ t) (hx : kFl t = x) : Calls Tryd.prog 27 #[.int .i64 t] w fun e w' => e = .returned (.int .i64 x) ∧ Below w.heap.size w w' := by
  have HB := Aside0.mk (Below.refl w.heap.size w)
  subst hx
  by_cases h10 : t < 10
  · obtain rfl | rfl | rfl | rfl | rfl | rfl | rfl | rfl | rfl | rfl : t = 0 ∨ t = 1 ∨ t = 2 ∨ t = 3 ∨ t = 4 ∨ t = 5 ∨ t = 6 ∨ t = 7 ∨ t = 8 ∨ t = 9 := by omega
    · have hi := flagI0
      go_enter Tryd.func27, Tryd.ntmps27
      go_wp2_with fail
      go_ret
      exact ⟨rfl, HB.out⟩
    · have hi := flagI1
      go_enter Tryd.func27, Tryd.ntmps27
      go_wp2_with fail
      go_ret
      exact ⟨rfl, HB.out⟩
    · have hi := flagI2
      go_enter Tryd.func27, Tryd.ntmps27
      go_wp2_with fail
      go_ret
      exact ⟨rfl, HB.out⟩
    · have hi := flagI3
      go_enter Tryd.func27, Tryd.ntmps27
      go_wp2_with fail
      go_ret
      exact ⟨rfl, HB.out⟩
    · have hi := flagI4
      go_enter Tryd.func27, Tryd.ntmps27
      go_wp2_with fail
      go_ret
      exact ⟨rfl, HB.out⟩
    · have hi := flagI5
      go_enter Tryd.func27, Tryd.ntmps27
      go_wp2_with fail
      go_ret
      exact ⟨rfl, HB.out⟩
    · have hi := flagI6
      go_enter Tryd.func27, Tryd.ntmps27
      go_wp2_with fail
      go_ret
      exact ⟨rfl, HB.out⟩
    · have hi := flagI7
      go_enter Tryd.func27, Tryd.ntmps27
      go_wp2_with fail
      go_ret
      exact ⟨rfl, HB.out⟩
    · have hi := flagI8
      go_enter Tryd.func27, Tryd.ntmps27
      go_wp2_with fail
      go_ret
      exact ⟨rfl, HB.out⟩
    · have hi := flagI9
      go_enter Tryd.func27, Tryd.ntmps27
      go_wp2_with fail
      go_ret
      exact ⟨rfl, HB.out⟩
  · have h9 : decide (9 < t) = true := decide_eq_true (by omega)
    have e1 : kFl t = 255 := if_neg h10
    rw [e1]
    clear h0 h10 e1
    go_enter Tryd.func27, Tryd.ntmps27
    go_wp2_with fail
    go_ret
    exact ⟨rfl, HB.out⟩
theorem few_loop (L : List S32) (hl : L.length ≤ 8796093022208) : ∀ (n i : Nat), i ≤ L.length → i ≤ 2730 → n = 2731 - i → heraldlaw06_few.l0 n L ((L.take i).map few1) (i : Int) = some (fewL L) := by
  intro n
  induction n with
  | zero => intro i h1 h2 h3; omega
  | succ n ih =>
    intro i h1 h2 h3
    unfold heraldlaw06_few.l0
    by_cases hi : (i : Int) < (L.length : Int)
    · rw [if_pos hi]
      by_cases h27 : (i : Int) < 2730
      · have e : wrap64 ((i : Int) + 1) = ((i + 1 : Nat) : Int) := by unfold wrap64; omega
        have hr : rd_T32 L (i : Int) = L[i]'(by omega) := by
          have : i < L.length := by omega
          unfold rd_T32
          simp [this]
        rw [if_pos h27, if_pos (by omega), if_pos (by rw [List.length_map, List.length_take]; omega), e, hr, ← ih (i + 1) (by omega) (by omega) (by omega), List.take_succ_eq_append_getElem (by omega), List.map_append]
        rfl
      · rw [if_neg h27]
        have : i = 2730 := by omega
        subst this
        rfl
    · rw [if_neg hi]
      have : i = L.length := by omega
      subst this
      unfold fewL
      rw [List.take_of_length_le (Nat.le_refl _), List.take_of_length_le h2]
theorem few_calls (A : Option Addr) (c : Nat) (l : List S32) (hl : l.length ≤ 8796093022208) (w : World) (h1 : Kd.C k32 w A l.length l) (h2 : l.length ≤ c) : Calls Tryd.prog 23 #[.slice A l.length c] w fun e w' => ∃ v, e = .returned v ∧ Kd.R k32 32 w' w.heap.size (fun _ => True) v (fewL l) ∧ Below w.heap.size w w' :=
  heraldlaw06_few.calls 2731 A c l (fewL l) w h1 h2 (few_loop l hl 2731 0 (by omega) (by omega) (by omega))
end Go.Proofs.YtoffhlbdfhhhjaaDoor.Fr
