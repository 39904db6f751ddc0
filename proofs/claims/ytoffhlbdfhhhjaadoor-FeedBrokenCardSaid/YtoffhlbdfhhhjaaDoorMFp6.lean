/- The right frame that the laws make out of any. No condition. -/
import Derived.Test.YtoffhlbdfhhhjaaDoorMFp5
namespace Go.Proofs.YtoffhlbdfhhhjaaDoor.Fr
open Go Go.RowKit Go.Proofs.YtoffhlbdfhhhjaaDoorW.PrintWords Go.Proofs.YtoffhlbdfhhhjaaDoorW.PrintLast Go.Proofs.YtoffhlbdfhhhjaaDoorW.PrintMore Go.Proofs.YtoffhlbdfhhhjaaDoor.QL
set_option linter.unusedSimpArgs false
set_option linter.unusedVariables false
set_option maxHeartbeats 40000000
set_option maxRecDepth 100000
theorem TInv.put0 {w0 w : World} {g : Nat} {f : Fr} {A : Option Addr} {c : Nat} (r : TInv w0 w g f A c) (x : Int) : TInv w0 (w.setCell ⟨g, 0, none⟩ (.int .i64 x)) g { f with ty := x } A c :=
  ⟨by have hb := blk_set r.own 0 (.int .i64 x); simpa [At, Fr.cells] using hb, r.low.setCell (p := ⟨g, 0, none⟩) r.ge _, r.ge⟩
theorem TInv.put2 {w0 w : World} {g : Nat} {f : Fr} {A : Option Addr} {c : Nat} (r : TInv w0 w g f A c) (x : Int) : TInv w0 (w.setCell ⟨g, 2, none⟩ (.int .i64 x)) g { f with st := x } A c :=
  ⟨by have hb := blk_set r.own 2 (.int .i64 x); simpa [At, Fr.cells] using hb, r.low.setCell (p := ⟨g, 2, none⟩) r.ge _, r.ge⟩
theorem and_le (x : Int) (m : Nat) (hm : m < 9223372036854775808) : 0 ≤ Go.bits .and .i64 x (m : Int) ∧ Go.bits .and .i64 x (m : Int) ≤ (m : Int) := by
  have e : Go.bits .and .i64 x (m : Int) = IntKind.i64.wrap (((BitVec.ofInt 64 x).toNat &&& m : Nat) : Int) := by
    have h64 : m % 2 ^ 64 = m := Nat.mod_eq_of_lt (by omega)
    show IntKind.i64.wrap _ = _
    simp only [BitVec.ofInt_natCast, BitVec.toNat_and, BitVec.toNat_ofNat]
    show IntKind.i64.wrap ((((BitVec.ofInt 64 x).toNat &&& (m % 2 ^ 64) : Nat)) : Int) = _
    rw [h64]
  have h : (BitVec.ofInt 64 x).toNat &&& m ≤ m := Nat.and_le_right
  rw [e, IntWalk.i64_in _ (by omega)]
  omega
theorem and_255 (x : Int) : 0 ≤ Go.bits .and .i64 x 255 ∧ Go.bits .and .i64 x 255 ≤ 255 := and_le x 255 (by decide)
/-- The type of the frame made. -/
def mTy (ex : Bool) (x : Int) : Int := if ex = true then Int.tmod (Go.bits .and .i64 x 255) 10 else Go.bits .and .i64 x 255
def mS1 (t : Int) : Bool := decide (t < 4) || (t == 5) || decide (7 < t)
def mS2 (t s : Int) : Bool := (decide (t < 4) || (t == 5) || (t == 9)) && (s == 0)
def mP (t fl : Int) : Bool := ((t == 0) || (t == 1) || (t == 5)) && (Go.bits .and .i64 fl 8 != 0)
def mW (t fl : Int) : Bool := (t == 2) || ((t == 1) && (Go.bits .and .i64 fl 32 != 0))
def mC (t : Int) : Bool := (t == 3) || (t == 7)
def mL (t : Int) : Bool := (t == 5) || (t == 7) || (t == 8)
def mQ (t fl : Int) : Bool := (t == 4) && (fl == 0)
def few1 (p : S32) : S32 := ⟨Go.bits .and .i64 p.f0 65535, Go.bits .and .i64 p.f1 4294967295⟩
def fewL (l : List S32) : List S32 := (l.take 2730).map few1
def z8 : ByteArray := ⟨#[0, 0, 0, 0, 0, 0, 0, 0]⟩
def mD0 (t : Int) (d : ByteArray) : ByteArray := if t = 0 ∨ t = 1 ∨ t = 5 ∨ t = 7 ∨ t = 9 then d else if t = 6 then (d ++ z8).extract 0 8 else ByteArray.empty
def mD1 (t : Int) (d : ByteArray) : ByteArray := if 9 < t then d else mD0 t d
def mDa (t : Int) (d : ByteArray) : ByteArray := if 60000 < (mD1 t d).size then (mD1 t d).extract 0 60000 else mD1 t d
def mSt1 (t x : Int) : Int := if mS1 t = true then Go.bits .and .i64 x 2147483647 else 0
def mSt (t x : Int) : Int := if mS2 t (mSt1 t x) = true then 1 else mSt1 t x
/-- The right frame made out of any. -/
def madeT (f : Fr) (t fl : Int) : Fr := ⟨t, fl, mSt t f.st, mDa t f.da, if mP t fl = true then Go.bits .and .i64 f.pad 255 else 0, if mW t fl = true then Go.bits .and .i64 f.dep 2147483647 else 0, if mW t fl = true then (Go.bits .and .i64 f.wt 256 != 0) else false, if mW t fl = true then Go.bits .and .i64 f.wt 255 + 1 else 0, if mC t = true then Go.bits .and .i64 f.co 4294967295 else 0, if mL t = true then Go.bits .and .i64 f.la 2147483647 else 0, if mQ t fl = true then fewL f.ps else []⟩
def madeF (f : Fr) : Fr := madeT f (mTy f.ex f.ty) (Go.bits .and .i64 f.fl (kFl (mTy f.ex f.ty)))
theorem mTy_range (ex : Bool) (x : Int) : 0 ≤ mTy ex x ∧ mTy ex x ≤ 255 := by
  have h := and_255 x
  unfold mTy
  split
  · rw [Int.tmod_eq_emod_of_nonneg h.1]
    omega
  · exact h
theorem flagI0 (w : World) : (Instr.index 106 (.agg #[.int .i64 9, .int .i64 45, .int .i64 0, .int .i64 0, .int .i64 1, .int .i64 12, .int .i64 1, .int .i64 0, .int .i64 0, .int .i64 4]) (.int .i64 0)).run Tryd.prog w = .ok (.int .i64 9) w := by kernel_rfl
theorem flagI1 (w : World) : (Instr.index 106 (.agg #[.int .i64 9, .int .i64 45, .int .i64 0, .int .i64 0, .int .i64 1, .int .i64 12, .int .i64 1, .int .i64 0, .int .i64 0, .int .i64 4]) (.int .i64 1)).run Tryd.prog w = .ok (.int .i64 45) w := by kernel_rfl
theorem flagI2 (w : World) : (Instr.index 106 (.agg #[.int .i64 9, .int .i64 45, .int .i64 0, .int .i64 0, .int .i64 1, .int .i64 12, .int .i64 1, .int .i64 0, .int .i64 0, .int .i64 4]) (.int .i64 2)).run Tryd.prog w = .ok (.int .i64 0) w := by kernel_rfl
theorem flagI3 (w : World) : (Instr.index 106 (.agg #[.int .i64 9, .int .i64 45, .int .i64 0, .int .i64 0, .int .i64 1, .int .i64 12, .int .i64 1, .int .i64 0, .int .i64 0, .int .i64 4]) (.int .i64 3)).run Tryd.prog w = .ok (.int .i64 0) w := by kernel_rfl
theorem flagI4 (w : World) : (Instr.index 106 (.agg #[.int .i64 9, .int .i64 45, .int .i64 0, .int .i64 0, .int .i64 1, .int .i64 12, .int .i64 1, .int .i64 0, .int .i64 0, .int .i64 4]) (.int .i64 4)).run Tryd.prog w = .ok (.int .i64 1) w := by kernel_rfl
theorem flagI5 (w : World) : (Instr.index 106 (.agg #[.int .i64 9, .int .i64 45, .int .i64 0, .int .i64 0, .int .i64 1, .int .i64 12, .int .i64 1, .int .i64 0, .int .i64 0, .int .i64 4]) (.int .i64 5)).run Tryd.prog w = .ok (.int .i64 12) w := by kernel_rfl
theorem flagI6 (w : World) : (Instr.index 106 (.agg #[.int .i64 9, .int .i64 45, .int .i64 0, .int .i64 0, .int .i64 1, .int .i64 12, .int .i64 1, .int .i64 0, .int .i64 0, .int .i64 4]) (.int .i64 6)).run Tryd.prog w = .ok (.int .i64 1) w := by kernel_rfl
theorem flagI7 (w : World) : (Instr.index 106 (.agg #[.int .i64 9, .int .i64 45, .int .i64 0, .int .i64 0, .int .i64 1, .int .i64 12, .int .i64 1, .int .i64 0, .int .i64 0, .int .i64 4]) (.int .i64 7)).run Tryd.prog w = .ok (.int .i64 0) w := by kernel_rfl
theorem flagI8 (w : World) : (Instr.index 106 (.agg #[.int .i64 9, .int .i64 45, .int .i64 0, .int .i64 0, .int .i64 1, .int .i64 12, .int .i64 1, .int .i64 0, .int .i64 0, .int .i64 4]) (.int .i64 8)).run Tryd.prog w = .ok (.int .i64 0) w := by kernel_rfl
theorem flagI9 (w : World) : (Instr.index 106 (.agg #[.int .i64 9, .int .i64 45, .int .i64 0, .int .i64 0, .int .i64 1, .int .i64 12, .int .i64 1, .int .i64 0, .int .i64 0, .int .i64 4]) (.int .i64 9)).run Tryd.prog w = .ok (.int .i64 4) w := by kernel_rfl
theorem flags_calls (t x : Int) (w : World) (h0 : 0 ≤ t) (hx : kFl t = x) : Calls Tryd.prog 27 #[.int .i64 t] w fun e w' => e = .returned (.int .i64 x) ∧ Below w.heap.size w w' := by
  have HB := Aside0.mk (Below.refl w.heap.size w)
  subst hx
  by_cases h10 : t < 10
  · obtain rfl | rfl | rfl | rfl | rfl | rfl | rfl | rfl | rfl | rfl : t = 0 ∨ t = 1 ∨ t = 2 ∨ t = 3 ∨ t = 4 ∨ t = 5 ∨ t = 6 ∨ t = 7 ∨ t = 8 ∨ t = 9 := by omega
    · have hi := flagI0
      go_enter Tryd.func27, Tryd.ntmps27
      go_wp2_with fail
      go_ret
      exact ⟨rfl, HB.out⟩
    · have hi := flagI1
      go_enter Tryd.func27, Tryd.ntmps27
      go_wp2_with fail
      go_ret
      exact ⟨rfl, HB.out⟩
    · have hi := flagI2
      go_enter Tryd.func27, Tryd.ntmps27
      go_wp2_with fail
      go_ret
      exact ⟨rfl, HB.out⟩
    · have hi := flagI3
      go_enter Tryd.func27, Tryd.ntmps27
      go_wp2_with fail
      go_ret
      exact ⟨rfl, HB.out⟩
    · have hi := flagI4
      go_enter Tryd.func27, Tryd.ntmps27
      go_wp2_with fail
      go_ret
      exact ⟨rfl, HB.out⟩
    · have hi := flagI5
      go_enter Tryd.func27, Tryd.ntmps27
      go_wp2_with fail
      go_ret
      exact ⟨rfl, HB.out⟩
    · have hi := flagI6
      go_enter Tryd.func27, Tryd.ntmps27
      go_wp2_with fail
      go_ret
      exact ⟨rfl, HB.out⟩
    · have hi := flagI7
      go_enter Tryd.func27, Tryd.ntmps27
      go_wp2_with fail
      go_ret
      exact ⟨rfl, HB.out⟩
    · have hi := flagI8
      go_enter Tryd.func27, Tryd.ntmps27
      go_wp2_with fail
      go_ret
      exact ⟨rfl, HB.out⟩
    · have hi := flagI9
      go_enter Tryd.func27, Tryd.ntmps27
      go_wp2_with fail
      go_ret
      exact ⟨rfl, HB.out⟩
  · have h9 : decide (9 < t) = true := decide_eq_true (by omega)
    have e1 : kFl t = 255 := if_neg h10
    rw [e1]
    clear h0 h10 e1
    go_enter Tryd.func27, Tryd.ntmps27
    go_wp2_with fail
    go_ret
    exact ⟨rfl, HB.out⟩
theorem few_loop (L : List S32) (hl : L.length ≤ 8796093022208) : ∀ (n i : Nat), i ≤ L.length → i ≤ 2730 → n = 2731 - i → heraldlaw06_few.l0 n L ((L.take i).map few1) (i : Int) = some (fewL L) := by
  intro n
  induction n with
  | zero => intro i h1 h2 h3; omega
  | succ n ih =>
    intro i h1 h2 h3
    unfold heraldlaw06_few.l0
    by_cases hi : (i : Int) < (L.length : Int)
    · rw [if_pos hi]
      by_cases h27 : (i : Int) < 2730
      · have e : wrap64 ((i : Int) + 1) = ((i + 1 : Nat) : Int) := by unfold wrap64; omega
        have hr : rd_T32 L (i : Int) = L[i]'(by omega) := by
          have : i < L.length := by omega
          unfold rd_T32
          simp [this]
        rw [if_pos h27, if_pos (by omega), if_pos (by rw [List.length_map, List.length_take]; omega), e, hr, ← ih (i + 1) (by omega) (by omega) (by omega), List.take_succ_eq_append_getElem (by omega), List.map_append]
        rfl
      · rw [if_neg h27]
        have : i = 2730 := by omega
        subst this
        rfl
    · rw [if_neg hi]
      have : i = L.length := by omega
      subst this
      unfold fewL
      rw [List.take_of_length_le (Nat.le_refl _), List.take_of_length_le h2]
theorem few_calls (A : Option Addr) (c : Nat) (l : List S32) (hl : l.length ≤ 8796093022208) (w : World) (h1 : Kd.C k32 w A l.length l) (h2 : l.length ≤ c) : Calls Tryd.prog 23 #[.slice A l.length c] w fun e w' => ∃ v, e = .returned v ∧ Kd.R k32 32 w' w.heap.size (fun _ => True) v (fewL l) ∧ Below w.heap.size w w' :=
  heraldlaw06_few.calls 2731 A c l (fewL l) w h1 h2 (few_loop l hl 2731 0 (by omega) (by omega) (by omega))
end Go.Proofs.YtoffhlbdfhhhjaaDoor.Fr
namespace Go.Proofs.YtoffhlbdfhhhjaaDoor.Fr
open Go Go.RowKit Go.Proofs.YtoffhlbdfhhhjaaDoorW.PrintWords Go.Proofs.YtoffhlbdfhhhjaaDoorW.PrintLast Go.Proofs.YtoffhlbdfhhhjaaDoorW.PrintMore Go.Proofs.YtoffhlbdfhhhjaaDoor.QL
set_option linter.unusedSimpArgs false
set_option linter.unusedVariables false
set_option maxHeartbeats 40000000
set_option maxRecDepth 100000
theorem bcaseA (a b : Bool) : a = false ∨ (a = true ∧ b = false) ∨ (a = true ∧ b = true) := by cases a <;> cases b <;> simp
theorem bcase2 (a b : Bool) : a = true ∨ (a = false ∧ b = true) ∨ (a = false ∧ b = false) := by cases a <;> cases b <;> simp
theorem bcase3 (a b c : Bool) : a = true ∨ (a = false ∧ b = true) ∨ (a = false ∧ b = false ∧ c = true) ∨ (a = false ∧ b = false ∧ c = false) := by cases a <;> cases b <;> cases c <;> simp
theorem made_calls (f : Fr) (A : Option Addr) (c : Nat) (w : World) (hps : Kd.C k32 w A f.ps.length f.ps) (hc : f.ps.length ≤ c) (hl : f.ps.length ≤ 8796093022208) (hda : f.da.size ≤ 9223372036854775799) :
    Calls Tryd.prog 25 #[.agg (f.cells A c)] w fun e w' => ∃ A' c', e = .returned (.agg ((madeF f).cells A' c')) ∧ Kd.R k32 32 w' w.heap.size (fun _ => True) (.slice A' (madeF f).ps.length c') (madeF f).ps ∧ Below w.heap.size w w' := by
  have HPS := Aside0.mk hps
  have HC := Aside0.mk hc
  have HL := Aside0.mk hl
  have HDA := Aside0.mk hda
  have HTY : Aside0 (0 ≤ mTy f.ex f.ty) := ⟨(mTy_range _ _).1⟩
  have HB := Aside0.mk (Below.refl w.heap.size w)
  clear hps hc hl hda
  unfold Fr.cells
  go_enter Tryd.func25, Tryd.ntmps25
  go_upto_region 1 with fail
  obtain ⟨W0, hW0⟩ : ∃ W, (w.alloc (.cells #[.int .i64 f.ty, .int .i64 f.fl, .int .i64 f.st, .string f.da, .int .i64 f.pad, .int .i64 f.dep, .bool f.ex, .int .i64 f.wt, .int .i64 f.co, .int .i64 f.la, .slice A f.ps.length c] 24)).alloc (.cells #[.int .i64 0, .int .i64 0, .int .i64 0, .string ⟨#[]⟩, .int .i64 0, .int .i64 0, .bool false, .int .i64 0, .int .i64 0, .int .i64 0, .slice none 0 0] 24) = W := ⟨_, rfl⟩
  have X1 : Aside0 (At W0 w.heap.size f A c) := ⟨by rw [← hW0]; exact heap_alloc2_old _ _ _⟩
  have X2 : Aside0 (At W0 (w.heap.size + 1) Fr.zero none 0) := ⟨by rw [← hW0]; exact heap_alloc2_new _ _ _⟩
  have L0 : Aside0 (Below w.heap.size w W0) := ⟨by rw [← hW0]; exact below_alloc (below_alloc HB.out _) _⟩
  obtain ⟨g1, hg1⟩ : ∃ g, w.heap.size = g := ⟨_, rfl⟩
  obtain ⟨g2, hg2⟩ : ∃ g, g1 + 1 = g := ⟨_, rfl⟩
  rw [hW0, hg1, hg2]
  rw [hg1] at X1 X2
  rw [hg2] at X2
  have HG1 := Aside0.mk hg1
  have HG2 := Aside0.mk hg2
  clear hW0 hg1 hg2
  have z0 := X1.out.c0
  go_upto_region 2 with fail
  clear z0
  obtain ⟨t0, ht0⟩ : ∃ t, Go.bits .and .i64 f.ty 255 = t := ⟨_, rfl⟩
  obtain ⟨W, hW⟩ : ∃ W, W0.alloc (.cells #[.int .i64 t0, .int .i64 0, .int .i64 0, .string ⟨#[]⟩, .int .i64 0, .int .i64 0, .bool false, .int .i64 0, .int .i64 0, .int .i64 0, .slice none 0 0] 24) = W := ⟨_, rfl⟩
  obtain ⟨g3, hg3⟩ : ∃ g, W0.heap.size = g := ⟨_, rfl⟩
  have T : Aside0 (TInv W0 W g3 (⟨t0, 0, 0, ByteArray.empty, 0, 0, false, 0, 0, 0, []⟩ : Fr) none 0) := ⟨by rw [← hW, ← hg3]; exact ⟨blk_new W0 _, below_alloc (Below.refl _ _) _, Nat.le_refl _⟩⟩
  rw [ht0, hW, hg3]
  have HT0 := Aside0.mk ht0
  have HG3 := Aside0.mk hg3
  clear ht0 hW hg3
  skip
  have w6 := (X1.out.low T.out.low).c6
  go_upto_if 9 with fail
  clear w6
  obtain ⟨x, hx⟩ : ∃ x, f.ex = x := ⟨_, rfl⟩
  have HEX := Aside0.mk hx
  rw [hx]
  clear hx
  go_cut [2] from 10 to 14 (fun v wc => v = .pointer (some ⟨g2, 0, none⟩) ∧ Aside0 (TInv W0 wc g3 (⟨if x = true then Int.tmod t0 10 else t0, 0, 0, ByteArray.empty, 0, 0, false, 0, 0, 0, []⟩ : Fr) none 0))
  case first =>
    as_aux_lemma =>
    cases x
    · go_wp2_with fail
      go_meet
      case rel => exact ⟨rfl, T⟩
    · skip
      have z0 := (X1.out.low T.out.low).c0
      have e0 := HT0.out
      have y0 := T.out.own.c0
      have yf0 := blk_frozen T.out.own 0
      go_wp2_with fail
      go_meet
      case rel => exact ⟨rfl, ⟨T.out.put0 _⟩⟩
  case rest =>
    clear T
    obtain ⟨rfl, T⟩ := hcut
    obtain ⟨t, ht⟩ : ∃ y, (if x = true then Int.tmod t0 10 else t0) = y := ⟨_, rfl⟩
    have HT := Aside0.mk ht
    rw [ht] at T
    clear ht
    have HTT : Aside0 (mTy f.ex f.ty = t) := ⟨by rw [HEX.out, ← HT.out, ← HT0.out]; rfl⟩
    have H0 : Aside0 (0 ≤ t) := ⟨by rw [← HTT.out]; exact HTY.out⟩
    obtain ⟨k, hk⟩ : ∃ k, kFl t = k := ⟨_, rfl⟩
    have HK := Aside0.mk hk
    obtain ⟨fl, hfl⟩ : ∃ y, Go.bits .and .i64 f.fl k = y := ⟨_, rfl⟩
    have HFL := Aside0.mk hfl
    clear hk
    go_upto_region 4 with fail
    refine start_ (n := 8) (S := fun w' => w'.cell? ⟨g1, 1, none⟩ = some (.int .i64 f.fl) ∧ w'.cell? ⟨g3, 0, none⟩ = some (.int .i64 t) ∧ TInv W0 w' g3 (⟨t, 0, 0, ByteArray.empty, 0, 0, false, 0, 0, 0, []⟩ : Fr) none 0) (ds := [7]) #[false, false, false, false, false, false, false, false] (by kernel_rfl) rfl rfl ⟨(X1.out.low (T.out.below (below_drew (Below.refl _ _))).low).c1, (T.out.below (below_drew (Below.refl _ _))).own.c0, T.out.below (below_drew (Below.refl _ _))⟩ (fun hHeld => ?_)
    refine pure_ (i := 0) (N := some 15) (v := ?_) (a' := ?_) #[true, false, false, false, false, false, false, false] rfl rfl (by kernel_rfl) (fun _ _ _ h => h) (Or.inl ⟨by rfl, ?_⟩) ?_ ?_
    rotate_left
    · intro w'
      go_simp
      with_reducible rfl
    rotate_left
    · simp only [Act.put, List.setIfInBounds_toArray, List.set_cons_zero, List.set_cons_succ, i64_w, i32_w]
      rfl
    refine pure_ (i := 2) (N := some 17) (v := ?_) (a' := ?_) #[true, false, true, false, false, false, false, false] rfl rfl (by kernel_rfl) (fun _ _ _ h => h) (Or.inl ⟨by rfl, ?_⟩) ?_ ?_
    rotate_left
    · intro w'
      go_simp
      with_reducible rfl
    rotate_left
    · simp only [Act.put, List.setIfInBounds_toArray, List.set_cons_zero, List.set_cons_succ, i64_w, i32_w]
      rfl
    refine take_ (i := 1) (N := some 16) (v := ?_) (a' := ?_) #[true, true, true, false, false, false, false, false] rfl rfl (by kernel_rfl) (fun _ _ _ h => h) (Or.inl ⟨by rfl, ?_⟩) hHeld ?_ ?_
    rotate_left
    · rintro w' ⟨s0, s1, s2⟩
      go_simp
      with_reducible rfl
    rotate_left
    · simp only [Act.put, List.setIfInBounds_toArray, List.set_cons_zero, List.set_cons_succ, i64_w, i32_w]
      rfl
    refine take_ (i := 3) (N := some 18) (v := ?_) (a' := ?_) #[true, true, true, true, false, false, false, false] rfl rfl (by kernel_rfl) (fun _ _ _ h => h) (Or.inl ⟨by rfl, ?_⟩) hHeld ?_ ?_
    rotate_left
    · rintro w' ⟨s0, s1, s2⟩
      go_simp
      with_reducible rfl
    rotate_left
    · simp only [Act.put, List.setIfInBounds_toArray, List.set_cons_zero, List.set_cons_succ, i64_w, i32_w]
      rfl
    refine one_ (i := 4) (N := some 19) #[true, true, true, true, true, false, false, false] rfl rfl (by kernel_rfl) (by decide) (fun K hK => ?_)
    refine goes_ Tryd.func27 (by kernel_rfl) rfl #[.int .i64 t] (by rfl) rfl rfl (by simp only [List.map_toArray, List.map_cons, List.map_nil]; rfl) ?_
    with_reducible refine (flags_calls t k _ H0.out HK.out).mono ?_
    rintro e w4 ⟨rfl, hb⟩
    refine ⟨_, rfl, ?_⟩
    refine hK.out _ _ ⟨(X1.out.low (hHeld.2.2.below hb).low).c1, (hHeld.2.2.below hb).own.c0, hHeld.2.2.below hb⟩ (fun hHeld => ?_)
    clear hK K
    refine norm_ (a' := ?_) ?_ ?_
    rotate_left
    · show Act.put _ (some 19) _ = _
      simp only [Act.put, List.setIfInBounds_toArray, List.set_cons_zero, List.set_cons_succ, i64_w, i32_w]
      rfl
    refine pure_ (i := 5) (N := some 20) (v := ?_) (a' := ?_) #[true, true, true, true, true, true, false, false] rfl rfl (by kernel_rfl) (fun _ _ _ h => h) (Or.inl ⟨by rfl, ?_⟩) ?_ ?_
    rotate_left
    · intro w'
      go_simp
      with_reducible rfl
    rotate_left
    · simp only [Act.put, List.setIfInBounds_toArray, List.set_cons_zero, List.set_cons_succ, i64_w, i32_w]
      rfl
    refine pure_ (i := 6) (N := some 21) (v := ?_) (a' := ?_) #[true, true, true, true, true, true, true, false] rfl rfl (by kernel_rfl) (fun _ _ _ h => h) (Or.inl ⟨by rfl, ?_⟩) ?_ ?_
    rotate_left
    · intro w'
      go_simp
      with_reducible rfl
    rotate_left
    · simp only [Act.put, List.setIfInBounds_toArray, List.set_cons_zero, List.set_cons_succ, i64_w, i32_w]
      rfl
    refine last_ (i := 7) (N := none) #[true, true, true, true, true, true, true, true] rfl rfl (by kernel_rfl) (by decide) (fun K hK => ?_)
    have y1 := hHeld.2.2.own.c1
    have yf1 := blk_frozen hHeld.2.2.own 1
    have T4 := Aside0.mk hHeld.2.2
    refine skip_ (w1 := ?_) (by rfl) rfl ?_ ?_
    rotate_left
    · go_simp
      rfl
    clear y1 yf1
    refine hK.out _ _ ?_
    clear hK K
    refine done_ (by kernel_rfl) ?_
    repeat (rename World.cell? _ _ = _ ∧ _ => hh; clear hh)
    go_upto_region 5 with fail
    obtain ⟨W4, hW4⟩ : ∃ W, w4.setCell ⟨g3, 1, none⟩ (.int .i64 fl) = W := ⟨_, rfl⟩
    clear T
    have T : Aside0 (TInv W0 W4 g3 (⟨t, fl, 0, ByteArray.empty, 0, 0, false, 0, 0, 0, []⟩ : Fr) none 0) := ⟨by rw [← hW4]; exact T4.out.put1 fl⟩
    rw [hW4]
    clear hW4 hfl T4
    go_upto_region 5 with fail
    go_cut [34] from 22 to 34 (fun v wc => v = .bool (mS1 t) ∧ Aside0 (TInv W0 wc g3 (⟨t, fl, 0, ByteArray.empty, 0, 0, false, 0, 0, 0, []⟩ : Fr) none 0))
    case first =>
      as_aux_lemma =>
      have w0 := T.out.own.c0
      rcases bcase3 (decide (t < 4)) ((t == 5)) (decide (7 < t)) with q0 | ⟨q0, q1⟩ | ⟨q0, q1, q2⟩ | ⟨q0, q1, q2⟩
      all_goals
        go_wp2_with fail
        go_meet
        case rel => exact ⟨by simp [*, mS1, mS2, mP, mW, mC, mL, mQ], T⟩
    case rest =>
      clear T
      obtain ⟨rfl, T⟩ := hcut
      obtain ⟨x, hx⟩ : ∃ x, mS1 t = x := ⟨_, rfl⟩
      have HX34 := Aside0.mk hx
      rw [hx]
      clear hx
      go_upto_if 34 with fail
      go_cut [2] from 35 to 38 (fun v wc => v = .pointer (some ⟨g2, 0, none⟩) ∧ Aside0 (TInv W0 wc g3 (⟨t, fl, if x = true then Go.bits .and .i64 f.st 2147483647 else 0, ByteArray.empty, 0, 0, false, 0, 0, 0, []⟩ : Fr) none 0))
      case first =>
        as_aux_lemma =>
        cases x
        · go_wp2_with fail
          go_meet
          case rel => exact ⟨rfl, T⟩
        · skip
          have z2 := (X1.out.low T.out.low).c2
          have y2 := T.out.own.c2
          have yf2 := blk_frozen T.out.own 2
          go_wp2_with fail
          go_meet
          case rel => exact ⟨rfl, ⟨T.out.put2 _⟩⟩
      case rest =>
        clear T
        obtain ⟨rfl, T⟩ := hcut
        obtain ⟨s1, hs1⟩ : ∃ y, (if x = true then Go.bits .and .i64 f.st 2147483647 else 0) = y := ⟨_, rfl⟩
        have HS1 := Aside0.mk hs1
        rw [hs1] at T
        clear hs1
        have KHS1 : Aside0 ((mSt1 t f.st) = s1) := ⟨by rw [← HS1.out, ← HX34.out]; rfl⟩
        go_upto_region 7 with fail
        go_cut [56] from 39 to 56 (fun v wc => v = .bool (mS2 t s1) ∧ Aside0 (TInv W0 wc g3 (⟨t, fl, s1, ByteArray.empty, 0, 0, false, 0, 0, 0, []⟩ : Fr) none 0))
        case first =>
          as_aux_lemma =>
          have w0 := T.out.own.c0
          have w2 := T.out.own.c2
          rcases Bool.eq_false_or_eq_true (s1 == 0) with es | es
          all_goals
            rcases bcase3 (decide (t < 4)) ((t == 5)) ((t == 9)) with q0 | ⟨q0, q1⟩ | ⟨q0, q1, q2⟩ | ⟨q0, q1, q2⟩
          all_goals
            go_wp2_with fail
            go_meet
            case rel => exact ⟨by simp [*, mS1, mS2, mP, mW, mC, mL, mQ], T⟩
        case rest =>
          clear T
          obtain ⟨rfl, T⟩ := hcut
          obtain ⟨x, hx⟩ : ∃ x, mS2 t s1 = x := ⟨_, rfl⟩
          have HX56 := Aside0.mk hx
          rw [hx]
          clear hx
          go_upto_if 56 with fail
          go_cut [2] from 57 to 57 (fun v wc => v = .pointer (some ⟨g2, 0, none⟩) ∧ Aside0 (TInv W0 wc g3 (⟨t, fl, if x = true then 1 else s1, ByteArray.empty, 0, 0, false, 0, 0, 0, []⟩ : Fr) none 0))
          case first =>
            as_aux_lemma =>
            cases x
            · go_wp2_with fail
              go_meet
              case rel => exact ⟨rfl, T⟩
            · skip
              have y2 := T.out.own.c2
              have yf2 := blk_frozen T.out.own 2
              go_wp2_with fail
              go_meet
              case rel => exact ⟨rfl, ⟨T.out.put2 _⟩⟩
          case rest =>
            clear T
            obtain ⟨rfl, T⟩ := hcut
            obtain ⟨s2, hs2⟩ : ∃ y, (if x = true then 1 else s1) = y := ⟨_, rfl⟩
            have HS2 := Aside0.mk hs2
            rw [hs2] at T
            clear hs2
            have KHS2 : Aside0 ((mSt t f.st) = s2) := ⟨by unfold mSt; rw [KHS1.out, ← HS2.out, ← HX56.out]⟩
            go_upto_region 9 with fail
            go_cut [76] from 58 to 76 (fun v wc => v = .bool (mP t fl) ∧ Aside0 (TInv W0 wc g3 (⟨t, fl, s2, ByteArray.empty, 0, 0, false, 0, 0, 0, []⟩ : Fr) none 0))
            case first =>
              as_aux_lemma =>
              have w0 := T.out.own.c0
              have w1 := T.out.own.c1
              rcases Bool.eq_false_or_eq_true (Go.bits .and .i64 fl 8 != 0) with es | es
              all_goals
                rcases bcase3 ((t == 0)) ((t == 1)) ((t == 5)) with q0 | ⟨q0, q1⟩ | ⟨q0, q1, q2⟩ | ⟨q0, q1, q2⟩
              all_goals
                go_wp2_with fail
                go_meet
                case rel => exact ⟨by simp [*, mS1, mS2, mP, mW, mC, mL, mQ], T⟩
            case rest =>
              clear T
              obtain ⟨rfl, T⟩ := hcut
              obtain ⟨x, hx⟩ : ∃ x, mP t fl = x := ⟨_, rfl⟩
              have HX76 := Aside0.mk hx
              rw [hx]
              clear hx
              go_upto_if 76 with fail
              go_cut [2] from 77 to 80 (fun v wc => v = .pointer (some ⟨g2, 0, none⟩) ∧ Aside0 (TInv W0 wc g3 (⟨t, fl, s2, ByteArray.empty, if x = true then Go.bits .and .i64 f.pad 255 else 0, 0, false, 0, 0, 0, []⟩ : Fr) none 0))
              case first =>
                as_aux_lemma =>
                cases x
                · go_wp2_with fail
                  go_meet
                  case rel => exact ⟨rfl, T⟩
                · skip
                  have z4 := (X1.out.low T.out.low).c4
                  have y4 := T.out.own.c4
                  have yf4 := blk_frozen T.out.own 4
                  go_wp2_with fail
                  go_meet
                  case rel => exact ⟨rfl, ⟨T.out.put4 _⟩⟩
              case rest =>
                clear T
                obtain ⟨rfl, T⟩ := hcut
                obtain ⟨pd, hpd⟩ : ∃ y, (if x = true then Go.bits .and .i64 f.pad 255 else 0) = y := ⟨_, rfl⟩
                have HPD := Aside0.mk hpd
                rw [hpd] at T
                clear hpd
                have KHPD : Aside0 ((if mP t fl = true then Go.bits .and .i64 f.pad 255 else 0) = pd) := ⟨by rw [← HPD.out, ← HX76.out]⟩
                go_upto_region 11 with fail
                go_cut [94] from 81 to 94 (fun v wc => v = .bool (mW t fl) ∧ Aside0 (TInv W0 wc g3 (⟨t, fl, s2, ByteArray.empty, pd, 0, false, 0, 0, 0, []⟩ : Fr) none 0))
                case first =>
                  as_aux_lemma =>
                  have w0 := T.out.own.c0
                  have w1 := T.out.own.c1
                  rcases Bool.eq_false_or_eq_true (Go.bits .and .i64 fl 32 != 0) with es | es
                  all_goals
                    rcases bcase2 ((t == 2)) ((t == 1)) with q0 | ⟨q0, q1⟩ | ⟨q0, q1⟩
                  all_goals
                    go_wp2_with fail
                    go_meet
                    case rel => exact ⟨by simp [*, mS1, mS2, mP, mW, mC, mL, mQ], T⟩
                case rest =>
                  clear T
                  obtain ⟨rfl, T⟩ := hcut
                  obtain ⟨x, hx⟩ : ∃ x, mW t fl = x := ⟨_, rfl⟩
                  have HX94 := Aside0.mk hx
                  rw [hx]
                  clear hx
                  go_upto_if 94 with fail
                  go_cut [2] from 95 to 108 (fun v wc => v = .pointer (some ⟨g2, 0, none⟩) ∧ Aside0 (TInv W0 wc g3 (⟨t, fl, s2, ByteArray.empty, pd, if x = true then Go.bits .and .i64 f.dep 2147483647 else 0, if x = true then (Go.bits .and .i64 f.wt 256 != 0) else false, if x = true then Go.bits .and .i64 f.wt 255 + 1 else 0, 0, 0, []⟩ : Fr) none 0))
                  case first =>
                    as_aux_lemma =>
                    cases x
                    · go_wp2_with fail
                      go_meet
                      case rel => exact ⟨rfl, T⟩
                    · skip
                      have e7 : wrap64 (Go.bits .and .i64 f.wt 255 + 1) = Go.bits .and .i64 f.wt 255 + 1 := by have h := and_255 f.wt; unfold wrap64; omega
                      have z5 := (X1.out.low T.out.low).c5
                      have z7 := (X1.out.low T.out.low).c7
                      have y5 := T.out.own.c5
                      have yf5 := blk_frozen T.out.own 5
                      have y6 := T.out.own.c6
                      have yf6 := blk_frozen T.out.own 6
                      have y7 := T.out.own.c7
                      have yf7 := blk_frozen T.out.own 7
                      go_wp2_with fail
                      go_meet
                      case rel => exact ⟨rfl, ⟨((T.out.put5 _).put6 _).put7 _⟩⟩
                  case rest =>
                    clear T
                    obtain ⟨rfl, T⟩ := hcut
                    obtain ⟨dp, hdp⟩ : ∃ y, (if x = true then Go.bits .and .i64 f.dep 2147483647 else 0) = y := ⟨_, rfl⟩
                    have HDP := Aside0.mk hdp
                    rw [hdp] at T
                    clear hdp
                    have KHDP : Aside0 (((if mW t fl = true then Go.bits .and .i64 f.dep 2147483647 else 0)) = dp) := ⟨by rw [← HDP.out, ← HX94.out]⟩
                    obtain ⟨ex, hex⟩ : ∃ y, (if x = true then (Go.bits .and .i64 f.wt 256 != 0) else false) = y := ⟨_, rfl⟩
                    have HXX := Aside0.mk hex
                    rw [hex] at T
                    clear hex
                    have KHXX : Aside0 (((if mW t fl = true then (Go.bits .and .i64 f.wt 256 != 0) else false)) = ex) := ⟨by rw [← HXX.out, ← HX94.out]⟩
                    obtain ⟨wt, hwt⟩ : ∃ y, (if x = true then Go.bits .and .i64 f.wt 255 + 1 else 0) = y := ⟨_, rfl⟩
                    have HWT := Aside0.mk hwt
                    rw [hwt] at T
                    clear hwt
                    have KHWT : Aside0 (((if mW t fl = true then Go.bits .and .i64 f.wt 255 + 1 else 0)) = wt) := ⟨by rw [← HWT.out, ← HX94.out]⟩
                    go_upto_region 15 with fail
                    go_cut [116] from 109 to 116 (fun v wc => v = .bool (mC t) ∧ Aside0 (TInv W0 wc g3 (⟨t, fl, s2, ByteArray.empty, pd, dp, ex, wt, 0, 0, []⟩ : Fr) none 0))
                    case first =>
                      as_aux_lemma =>
                      have w0 := T.out.own.c0
                      rcases bcase2 ((t == 3)) ((t == 7)) with q0 | ⟨q0, q1⟩ | ⟨q0, q1⟩
                      all_goals
                        go_wp2_with fail
                        go_meet
                        case rel => exact ⟨by simp [*, mS1, mS2, mP, mW, mC, mL, mQ], T⟩
                    case rest =>
                      clear T
                      obtain ⟨rfl, T⟩ := hcut
                      obtain ⟨x, hx⟩ : ∃ x, mC t = x := ⟨_, rfl⟩
                      have HX116 := Aside0.mk hx
                      rw [hx]
                      clear hx
                      go_upto_if 116 with fail
                      go_cut [2] from 117 to 120 (fun v wc => v = .pointer (some ⟨g2, 0, none⟩) ∧ Aside0 (TInv W0 wc g3 (⟨t, fl, s2, ByteArray.empty, pd, dp, ex, wt, if x = true then Go.bits .and .i64 f.co 4294967295 else 0, 0, []⟩ : Fr) none 0))
                      case first =>
                        as_aux_lemma =>
                        cases x
                        · go_wp2_with fail
                          go_meet
                          case rel => exact ⟨rfl, T⟩
                        · skip
                          have z8 := (X1.out.low T.out.low).c8
                          have y8 := T.out.own.c8
                          have yf8 := blk_frozen T.out.own 8
                          go_wp2_with fail
                          go_meet
                          case rel => exact ⟨rfl, ⟨T.out.put8 _⟩⟩
                      case rest =>
                        clear T
                        obtain ⟨rfl, T⟩ := hcut
                        obtain ⟨co, hco⟩ : ∃ y, (if x = true then Go.bits .and .i64 f.co 4294967295 else 0) = y := ⟨_, rfl⟩
                        have HCO := Aside0.mk hco
                        rw [hco] at T
                        clear hco
                        have KHCO : Aside0 ((if mC t = true then Go.bits .and .i64 f.co 4294967295 else 0) = co) := ⟨by rw [← HCO.out, ← HX116.out]⟩
                        go_upto_region 17 with fail
                        go_cut [133] from 121 to 133 (fun v wc => v = .bool (mL t) ∧ Aside0 (TInv W0 wc g3 (⟨t, fl, s2, ByteArray.empty, pd, dp, ex, wt, co, 0, []⟩ : Fr) none 0))
                        case first =>
                          as_aux_lemma =>
                          have w0 := T.out.own.c0
                          rcases bcase3 ((t == 5)) ((t == 7)) ((t == 8)) with q0 | ⟨q0, q1⟩ | ⟨q0, q1, q2⟩ | ⟨q0, q1, q2⟩
                          all_goals
                            go_wp2_with fail
                            go_meet
                            case rel => exact ⟨by simp [*, mS1, mS2, mP, mW, mC, mL, mQ], T⟩
                        case rest =>
                          clear T
                          obtain ⟨rfl, T⟩ := hcut
                          obtain ⟨x, hx⟩ : ∃ x, mL t = x := ⟨_, rfl⟩
                          have HX133 := Aside0.mk hx
                          rw [hx]
                          clear hx
                          go_upto_if 133 with fail
                          go_cut [2] from 134 to 137 (fun v wc => v = .pointer (some ⟨g2, 0, none⟩) ∧ Aside0 (TInv W0 wc g3 (⟨t, fl, s2, ByteArray.empty, pd, dp, ex, wt, co, if x = true then Go.bits .and .i64 f.la 2147483647 else 0, []⟩ : Fr) none 0))
                          case first =>
                            as_aux_lemma =>
                            cases x
                            · go_wp2_with fail
                              go_meet
                              case rel => exact ⟨rfl, T⟩
                            · skip
                              have z9 := (X1.out.low T.out.low).c9
                              have y9 := T.out.own.c9
                              have yf9 := blk_frozen T.out.own 9
                              go_wp2_with fail
                              go_meet
                              case rel => exact ⟨rfl, ⟨T.out.put9 _⟩⟩
                          case rest =>
                            clear T
                            obtain ⟨rfl, T⟩ := hcut
                            obtain ⟨la, hla⟩ : ∃ y, (if x = true then Go.bits .and .i64 f.la 2147483647 else 0) = y := ⟨_, rfl⟩
                            have HLA := Aside0.mk hla
                            rw [hla] at T
                            clear hla
                            have KHLA : Aside0 ((if mL t = true then Go.bits .and .i64 f.la 2147483647 else 0) = la) := ⟨by rw [← HLA.out, ← HX133.out]⟩
                            go_upto_region 19 with fail
                            go_cut [145] from 138 to 145 (fun v wc => v = .bool (mQ t fl) ∧ Aside0 (TInv W0 wc g3 (⟨t, fl, s2, ByteArray.empty, pd, dp, ex, wt, co, la, []⟩ : Fr) none 0))
                            case first =>
                              as_aux_lemma =>
                              have w0 := T.out.own.c0
                              have w1 := T.out.own.c1
                              rcases bcaseA ((t == 4)) ((fl == 0)) with q0 | ⟨q0, q1⟩ | ⟨q0, q1⟩
                              all_goals
                                go_wp2_with fail
                                go_meet
                                case rel => exact ⟨by simp [*, mS1, mS2, mP, mW, mC, mL, mQ], T⟩
                            case rest =>
                              clear T
                              obtain ⟨rfl, T⟩ := hcut
                              obtain ⟨x, hx⟩ : ∃ x, mQ t fl = x := ⟨_, rfl⟩
                              have HXQ := Aside0.mk hx
                              rw [hx]
                              clear hx
                              go_upto_if 145 with fail
                              go_cut [2] from 146 to 149 (fun v wc => v = .pointer (some ⟨g2, 0, none⟩) ∧ ∃ A2 c2, Aside0 (TInv W0 wc g3 (⟨t, fl, s2, ByteArray.empty, pd, dp, ex, wt, co, la, if x = true then fewL f.ps else []⟩ : Fr) A2 c2) ∧ Aside0 (Kd.R k32 32 wc W0.heap.size (fun k => k ≠ g3) (.slice A2 (if x = true then fewL f.ps else []).length c2) (if x = true then fewL f.ps else [])))
                              case first =>
                                as_aux_lemma =>
                                cases x
                                · go_wp2_with fail
                                  go_meet
                                  case rel => exact ⟨rfl, none, 0, T, ⟨Kd.R_nil _ _ _ _ _⟩⟩
                                · skip
                                  have z10 := (X1.out.low T.out.low).c10
                                  go_wp2_with (go_at_call 23; refine (few_calls A c f.ps HL.out _ (Kd.C_below HPS.out (below_then L0.out L0.out.size T.out.low)) HC.out).mono ?_; rintro e w7 ⟨v, rfl, hr, hb⟩; obtain ⟨A5, c5, e5, _⟩ := Kd.R_reads hr; subst e5; have T7 := Aside0.mk (T.out.below hb); have y10 := T7.out.own.c10; have yf10 := blk_frozen T7.out.own 10; have KR7 := Aside0.mk (Kd.R_lower (Kd.R_mono (ok' := fun k => k ≠ g3) (Kd.R_bound hr) (fun k hk => by have h1 := hk.2.1; have h2 := blk_lt T.out.own; omega)) T.out.low.size); clear hr hb)
                                  go_meet
                                  case rel => exact ⟨rfl, A5, c5, ⟨T7.out.put10 (fewL f.ps) A5 c5⟩, ⟨Kd.R_far KR7.out (p := ⟨g3, 10, none⟩) (fun _ h => h) _⟩⟩
                              case rest =>
                                clear T
                                obtain ⟨rfl, A2, c2, T, KK⟩ := hcut
                                obtain ⟨ps, hps2⟩ : ∃ y, (if x = true then fewL f.ps else []) = y := ⟨_, rfl⟩
                                have HPP := Aside0.mk hps2
                                rw [hps2] at T KK
                                clear hps2
                                have KHPP : Aside0 ((if mQ t fl = true then fewL f.ps else []) = ps) := ⟨by rw [← HPP.out, ← HXQ.out]⟩
                                have w0 := T.out.own.c0
                                go_upto_block 0 with fail
                                clear w0
                                go_cut [2] from 152 to 167 (fun v wc => v = .pointer (some ⟨g2, 0, none⟩) ∧ Aside0 (TInv W0 wc g3 (⟨t, fl, s2, mD0 t f.da, pd, dp, ex, wt, co, la, ps⟩ : Fr) A2 c2) ∧ Aside0 (Kd.R k32 32 wc W0.heap.size (fun k => k ≠ g3) (.slice A2 (ps).length c2) (ps)))
                                case first =>
                                  as_aux_lemma =>
                                  by_cases t0 : t = 0
                                  · have e : mD0 t f.da = f.da := if_pos (by simp [t0])
                                    have b0 : (t == 0) = true := beq_iff_eq.mpr t0
                                    have HE := Aside0.mk e
                                    clear e t0
                                    have z3 := (X1.out.low T.out.low).c3
                                    have y3 := T.out.own.c3
                                    have yf3 := blk_frozen T.out.own 3
                                    go_wp2_with fail
                                    go_meet
                                    case rel => exact ⟨rfl, ⟨by rw [HE.out]; exact T.out.put3 _⟩, ⟨Kd.R_far KK.out (p := ⟨g3, 3, none⟩) (fun _ h => h) _⟩⟩
                                  · have b0 : (t == 0) = false := beq_eq_false_iff_ne.mpr t0
                                    by_cases t1 : t = 1
                                    · have e : mD0 t f.da = f.da := if_pos (by simp [t1])
                                      have b1 : (t == 1) = true := beq_iff_eq.mpr t1
                                      have HE := Aside0.mk e
                                      clear e t1
                                      have z3 := (X1.out.low T.out.low).c3
                                      have y3 := T.out.own.c3
                                      have yf3 := blk_frozen T.out.own 3
                                      go_wp2_with fail
                                      go_meet
                                      case rel => exact ⟨rfl, ⟨by rw [HE.out]; exact T.out.put3 _⟩, ⟨Kd.R_far KK.out (p := ⟨g3, 3, none⟩) (fun _ h => h) _⟩⟩
                                    · have b1 : (t == 1) = false := beq_eq_false_iff_ne.mpr t1
                                      by_cases t5 : t = 5
                                      · have e : mD0 t f.da = f.da := if_pos (by simp [t5])
                                        have b5 : (t == 5) = true := beq_iff_eq.mpr t5
                                        have HE := Aside0.mk e
                                        clear e t5
                                        have z3 := (X1.out.low T.out.low).c3
                                        have y3 := T.out.own.c3
                                        have yf3 := blk_frozen T.out.own 3
                                        go_wp2_with fail
                                        go_meet
                                        case rel => exact ⟨rfl, ⟨by rw [HE.out]; exact T.out.put3 _⟩, ⟨Kd.R_far KK.out (p := ⟨g3, 3, none⟩) (fun _ h => h) _⟩⟩
                                      · have b5 : (t == 5) = false := beq_eq_false_iff_ne.mpr t5
                                        by_cases t7 : t = 7
                                        · have e : mD0 t f.da = f.da := if_pos (by simp [t7])
                                          have b7 : (t == 7) = true := beq_iff_eq.mpr t7
                                          have HE := Aside0.mk e
                                          clear e t7
                                          have z3 := (X1.out.low T.out.low).c3
                                          have y3 := T.out.own.c3
                                          have yf3 := blk_frozen T.out.own 3
                                          go_wp2_with fail
                                          go_meet
                                          case rel => exact ⟨rfl, ⟨by rw [HE.out]; exact T.out.put3 _⟩, ⟨Kd.R_far KK.out (p := ⟨g3, 3, none⟩) (fun _ h => h) _⟩⟩
                                        · have b7 : (t == 7) = false := beq_eq_false_iff_ne.mpr t7
                                          by_cases t9 : t = 9
                                          · have e : mD0 t f.da = f.da := if_pos (by simp [t9])
                                            have b9 : (t == 9) = true := beq_iff_eq.mpr t9
                                            have HE := Aside0.mk e
                                            clear e t9
                                            have z3 := (X1.out.low T.out.low).c3
                                            have y3 := T.out.own.c3
                                            have yf3 := blk_frozen T.out.own 3
                                            go_wp2_with fail
                                            go_meet
                                            case rel => exact ⟨rfl, ⟨by rw [HE.out]; exact T.out.put3 _⟩, ⟨Kd.R_far KK.out (p := ⟨g3, 3, none⟩) (fun _ h => h) _⟩⟩
                                          · have b9 : (t == 9) = false := beq_eq_false_iff_ne.mpr t9
                                            by_cases t6 : t = 6
                                            · have e : mD0 t f.da = (f.da ++ z8).extract 0 8 := (if_neg (by simp [t6])).trans (if_pos t6)
                                              have b6 : (t == 6) = true := beq_iff_eq.mpr t6
                                              have HE := Aside0.mk e
                                              have hz : (8 : Int) ≤ ((f.da ++ z8).size : Int) := by rw [ByteArray.size_append, show z8.size = 8 from rfl]; omega
                                              have hz2 : (f.da.size : Int) + 8 ≤ 9223372036854775807 := by have := HDA.out; omega
                                              have hz4 : f.da.size + 8 ≤ 9223372036854775807 := by have := HDA.out; omega
                                              clear e t6 t1 t5 t7 t9
                                              have z3 := (X1.out.low T.out.low).c3
                                              have y3 := T.out.own.c3
                                              have yf3 := blk_frozen T.out.own 3
                                              unfold z8 at hz HE
                                              go_wp2_with fail
                                              go_meet
                                              case rel => exact ⟨rfl, ⟨by rw [HE.out]; exact T.out.put3 _⟩, ⟨Kd.R_far KK.out (p := ⟨g3, 3, none⟩) (fun _ h => h) _⟩⟩
                                            · have b6 : (t == 6) = false := beq_eq_false_iff_ne.mpr t6
                                              have e : mD0 t f.da = ByteArray.empty := (if_neg (by omega)).trans (if_neg t6)
                                              have HE := Aside0.mk e
                                              clear e t1 t5 t7 t9 t6
                                              go_wp2_with fail
                                              go_meet
                                              case rel => exact ⟨rfl, ⟨by rw [HE.out]; exact T.out⟩, KK⟩
                                case rest =>
                                  clear T KK
                                  obtain ⟨rfl, T, KK⟩ := hcut
                                  have w0 := T.out.own.c0
                                  go_upto_if 170 with fail
                                  clear w0
                                  obtain ⟨x, hx⟩ : ∃ x, decide (9 < t) = x := ⟨_, rfl⟩
                                  have HX170 := Aside0.mk hx
                                  rw [hx]
                                  clear hx
                                  go_cut [2] from 171 to 173 (fun v wc => v = .pointer (some ⟨g2, 0, none⟩) ∧ Aside0 (TInv W0 wc g3 (⟨t, fl, s2, if x = true then f.da else mD0 t f.da, pd, dp, ex, wt, co, la, ps⟩ : Fr) A2 c2) ∧ Aside0 (Kd.R k32 32 wc W0.heap.size (fun k => k ≠ g3) (.slice A2 (ps).length c2) (ps)))
                                  case first =>
                                    as_aux_lemma =>
                                    cases x
                                    · go_wp2_with fail
                                      go_meet
                                      case rel => exact ⟨rfl, T, KK⟩
                                    · skip
                                      have z3 := (X1.out.low T.out.low).c3
                                      have y3 := T.out.own.c3
                                      have yf3 := blk_frozen T.out.own 3
                                      go_wp2_with fail
                                      go_meet
                                      case rel => exact ⟨rfl, ⟨T.out.put3 _⟩, ⟨Kd.R_far KK.out (p := ⟨g3, 3, none⟩) (fun _ h => h) _⟩⟩
                                  case rest =>
                                    clear T KK
                                    obtain ⟨rfl, T, KK⟩ := hcut
                                    obtain ⟨d1, hd1⟩ : ∃ y, (if x = true then f.da else mD0 t f.da) = y := ⟨_, rfl⟩
                                    have HD1 := Aside0.mk hd1
                                    rw [hd1] at T
                                    clear hd1
                                    have KHD1 : Aside0 (mD1 t f.da = d1) := ⟨by rw [← HD1.out, ← HX170.out]; unfold mD1; simp⟩
                                    have w3 := T.out.own.c3
                                    go_upto_if 177 with fail
                                    clear w3
                                    obtain ⟨x, hx⟩ : ∃ x, decide ((60000 : Int) < (d1.size : Int)) = x := ⟨_, rfl⟩
                                    have HX177 := Aside0.mk hx
                                    rw [hx]
                                    clear hx
                                    go_cut [2] from 178 to 181 (fun v wc => v = .pointer (some ⟨g2, 0, none⟩) ∧ Aside0 (TInv W0 wc g3 (⟨t, fl, s2, if x = true then d1.extract 0 60000 else d1, pd, dp, ex, wt, co, la, ps⟩ : Fr) A2 c2) ∧ Aside0 (Kd.R k32 32 wc W0.heap.size (fun k => k ≠ g3) (.slice A2 (ps).length c2) (ps)))
                                    case first =>
                                      as_aux_lemma =>
                                      cases x
                                      · go_wp2_with fail
                                        go_meet
                                        case rel => exact ⟨rfl, T, KK⟩
                                      · skip
                                        have h6 : (60000 : Int) ≤ (d1.size : Int) := by have h := of_decide_eq_true HX177.out; omega
                                        have y3 := T.out.own.c3
                                        have yf3 := blk_frozen T.out.own 3
                                        go_wp2_with fail
                                        go_meet
                                        case rel => exact ⟨rfl, ⟨T.out.put3 _⟩, ⟨Kd.R_far KK.out (p := ⟨g3, 3, none⟩) (fun _ h => h) _⟩⟩
                                    case rest =>
                                      clear T KK
                                      obtain ⟨rfl, T, KK⟩ := hcut
                                      obtain ⟨d2, hd2⟩ : ∃ y, (if x = true then d1.extract 0 60000 else d1) = y := ⟨_, rfl⟩
                                      have HD2 := Aside0.mk hd2
                                      rw [hd2] at T
                                      clear hd2
                                      have KHD2 : Aside0 (mDa t f.da = d2) := ⟨by rw [← HD2.out, ← HX177.out]; unfold mDa; rw [KHD1.out]; simp only [decide_eq_true_eq]; split <;> split <;> first | rfl | omega⟩
                                      have HMADE : Aside0 (madeF f = (⟨t, fl, s2, d2, pd, dp, ex, wt, co, la, ps⟩ : Fr)) := ⟨by unfold madeF madeT; rw [HTT.out, HK.out, HFL.out, KHS2.out, KHD2.out, KHPD.out, KHDP.out, KHXX.out, KHWT.out, KHCO.out, KHLA.out, KHPP.out]⟩
                                      obtain ⟨m, hm⟩ : ∃ m, (⟨t, fl, s2, d2, pd, dp, ex, wt, co, la, ps⟩ : Fr) = m := ⟨_, rfl⟩
                                      have HPM : Aside0 (m.ps = ps) := ⟨by rw [← hm]⟩
                                      rw [hm] at T HMADE
                                      clear hm
                                      have Y2 := Aside0.mk (X2.out.low T.out.low)
                                      have LL := Aside0.mk (below_then L0.out L0.out.size T.out.low)
                                      go_wp2_with (first | (refine wpList_load_row rfl 24 _ rfl g3 rfl 24 (m.cells A2 c2) (0, 0) _ T.out.own Tryd.underlying24 (by rfl) (by kernel_rfl) ?_) | (refine wpList_store_row rfl 24 _ _ rfl g2 (m.cells A2 c2) rfl rfl 24 _ Y2.out (by kernel_rfl) (by kernel_rfl) (by kernel_rfl) ?_; obtain ⟨W8, e8, q4, qo, qb⟩ := row_store _ g2 (m.cells A2 c2) 24 _ Y2.out; rw [e8]; have Q2 := Aside0.mk q4; have QO := Aside0.mk qo; have QL := Aside0.mk (qb _ _ LL.out (by have := HG1.out; have := HG2.out; omega)); clear q4 qo qb e8))
                                      refine bodyPost_ret (results_cell_row (fn := Tryd.f25) rfl _ _ g2 24 (m.cells A2 c2) (0, 0) _ rfl Q2.out Tryd.underlying24 (by rfl) (by kernel_rfl)) rfl ?_
                                      rw [HMADE.out]
                                      refine ⟨A2, c2, rfl, ?_, QL.out⟩
                                      rw [HPM.out]
                                      exact Kd.R_lower (Kd.R_mono (Kd.R_step (Kd.R_bound KK.out) (fun k hk _ => QO.out k (by have h1 := hk.2.1; have h2 := blk_lt X2.out; omega))) (fun _ _ => trivial)) L0.out.size
end Go.Proofs.YtoffhlbdfhhhjaaDoor.Fr
