/- The document's Read tells the plain answer, too. No condition but that the text fits. -/
import Derived.Test.YtoffhlbdfhhhjaaDoorMFg4
import Derived.RegionTactic
namespace Go.Proofs.YtoffhlbdfhhhjaaDoor.Fr
open Go Go.RowKit Go.Proofs.YtoffhlbdfhhhjaaDoorW.PrintWords Go.Proofs.YtoffhlbdfhhhjaaDoorW.PrintLast Go.Proofs.YtoffhlbdfhhhjaaDoorW.PrintMore Go.Proofs.YtoffhlbdfhhhjaaDoor.QL
set_option linter.unusedSimpArgs false
set_option linter.unusedVariables false
set_option maxHeartbeats 40000000
set_option maxRecDepth 100000
/-- The type of the frame made. -/
def mTy (ex : Bool) (x : Int) : Int := if ex = true then Int.tmod (Go.bits .and .i64 x 255) 10 else Go.bits .and .i64 x 255
theorem flagI0 (w : World) : (Instr.index 106 (.agg #[.int .i64 9, .int .i64 45, .int .i64 0, .int .i64 0, .int .i64 1, .int .i64 12, .int .i64 1, .int .i64 0, .int .i64 0, .int .i64 4]) (.int .i64 0)).run Tryd.prog w = .ok (.int .i64 9) w := by kernel_rfl
theorem flagI1 (w : World) : (Instr.index 106 (.agg #[.int .i64 9, .int .i64 45, .int .i64 0, .int .i64 0, .int .i64 1, .int .i64 12, .int .i64 1, .int .i64 0, .int .i64 0, .int .i64 4]) (.int .i64 1)).run Tryd.prog w = .ok (.int .i64 45) w := by kernel_rfl
theorem flagI2 (w : World) : (Instr.index 106 (.agg #[.int .i64 9, .int .i64 45, .int .i64 0, .int .i64 0, .int .i64 1, .int .i64 12, .int .i64 1, .int .i64 0, .int .i64 0, .int .i64 4]) (.int .i64 2)).run Tryd.prog w = .ok (.int .i64 0) w := by kernel_rfl
theorem flagI3 (w : World) : (Instr.index 106 (.agg #[.int .i64 9, .int .i64 45, .int .i64 0, .int .i64 0, .int .i64 1, .int .i64 12, .int .i64 1, .int .i64 0, .int .i64 0, .int .i64 4]) (.int .i64 3)).run Tryd.prog w = .ok (.int .i64 0) w := by kernel_rfl
theorem flagI4 (w : World) : (Instr.index 106 (.agg #[.int .i64 9, .int .i64 45, .int .i64 0, .int .i64 0, .int .i64 1, .int .i64 12, .int .i64 1, .int .i64 0, .int .i64 0, .int .i64 4]) (.int .i64 4)).run Tryd.prog w = .ok (.int .i64 1) w := by kernel_rfl
theorem flagI5 (w : World) : (Instr.index 106 (.agg #[.int .i64 9, .int .i64 45, .int .i64 0, .int .i64 0, .int .i64 1, .int .i64 12, .int .i64 1, .int .i64 0, .int .i64 0, .int .i64 4]) (.int .i64 5)).run Tryd.prog w = .ok (.int .i64 12) w := by kernel_rfl
theorem flagI6 (w : World) : (Instr.index 106 (.agg #[.int .i64 9, .int .i64 45, .int .i64 0, .int .i64 0, .int .i64 1, .int .i64 12, .int .i64 1, .int .i64 0, .int .i64 0, .int .i64 4]) (.int .i64 6)).run Tryd.prog w = .ok (.int .i64 1) w := by kernel_rfl
theorem flagI7 (w : World) : (Instr.index 106 (.agg #[.int .i64 9, .int .i64 45, .int .i64 0, .int .i64 0, .int .i64 1, .int .i64 12, .int .i64 1, .int .i64 0, .int .i64 0, .int .i64 4]) (.int .i64 7)).run Tryd.prog w = .ok (.int .i64 0) w := by kernel_rfl
theorem flagI8 (w : World) : (Instr.index 106 (.agg #[.int .i64 9, .int .i64 45, .int .i64 0, .int .i64 0, .int .i64 1, .int .i64 12, .int .i64 1, .int .i64 0, .int .i64 0, .int .i64 4]) (.int .i64 8)).run Tryd.prog w = .ok (.int .i64 0) w := by kernel_rfl
theorem flagI9 (w : World) : (Instr.index 106 (.agg #[.int .i64 9, .int .i64 45, .int .i64 0, .int .i64 0, .int .i64 1, .int .i64 12, .int .i64 1, .int .i64 0, .int .i64 0, .int .i64 4]) (.int .i64 9)).run Tryd.prog w = .ok (.int .i64 4) w := by kernel_rfl
end Go.Proofs.YtoffhlbdfhhhjaaDoor.Fr
namespace Go.Proofs.YtoffhlbdfhhhjaaDoor.Fr
open Go Go.RowKit Go.Proofs.YtoffhlbdfhhhjaaDoorW.PrintWords Go.Proofs.YtoffhlbdfhhhjaaDoorW.PrintLast Go.Proofs.YtoffhlbdfhhhjaaDoorW.PrintMore Go.Proofs.YtoffhlbdfhhhjaaDoor.QL
set_option linter.unusedSimpArgs false
set_option linter.unusedVariables false
set_option maxHeartbeats 40000000
set_option maxRecDepth 100000
theorem bcase2 (a b : Bool) : a = true ∨ (a = false ∧ b = true) ∨ (a = false ∧ b = false) := by cases a <;> cases b <;> simp
theorem bcase3 (a b c : Bool) : a = true ∨ (a = false ∧ b = true) ∨ (a = false ∧ b = false ∧ c = true) ∨ (a = false ∧ b = false ∧ c = false) := by cases a <;> cases b <;> cases c <;> simp
end Go.Proofs.YtoffhlbdfhhhjaaDoor.Fr
namespace Go.Proofs.YtoffhlbdfhhhjaaDoor.Fr
open Go Go.RowKit Go.Proofs.YtoffhlbdfhhhjaaDoorW.PrintWords Go.Proofs.YtoffhlbdfhhhjaaDoorW.PrintLast Go.Proofs.YtoffhlbdfhhhjaaDoorW.PrintMore Go.Proofs.YtoffhlbdfhhhjaaDoor.QL
set_option linter.unusedSimpArgs false
set_option linter.unusedVariables false
set_option maxHeartbeats 4000000
set_option maxRecDepth 100000
theorem drawn_below {w w' : World} (h : Drawn0 w w') : Below w.heap.size w w' := by
  obtain ⟨n, rfl⟩ := h.out
  exact pw_below_drewN (Below.refl _ _) n
theorem has_f (fl : Int) (h0 : 0 ≤ fl) (h1 : fl ≤ 255) : heraldref06_has.f fl 1 = some (has fl 1) ∧ heraldref06_has.f fl 8 = some (has fl 8) ∧ heraldref06_has.f fl 32 = some (has fl 32) := by
  have h : ∀ n : Fin 256, heraldref06_has.f (n.val : Int) 1 = some (has (n.val : Int) 1) ∧ heraldref06_has.f (n.val : Int) 8 = some (has (n.val : Int) 8) ∧ heraldref06_has.f (n.val : Int) 32 = some (has (n.val : Int) 32) := by decide +kernel
  obtain ⟨n, rfl⟩ : ∃ n : Nat, fl = n := ⟨fl.toNat, by omega⟩
  exact h ⟨n, by omega⟩
/-- A frame's head is a head that Read makes. -/
structure Hd (f : Fr) : Prop where
  ty : 0 ≤ f.ty ∧ f.ty ≤ 255
  fl : 0 ≤ f.fl ∧ f.fl ≤ 255
  mask : Go.bits .and .i64 f.fl (kFl f.ty) = f.fl
theorem Hd.no8 {f : Fr} (h : Hd f) (h0 : f.ty ≠ 0) (h1 : f.ty ≠ 1) (h5 : f.ty ≠ 5) (h10 : f.ty < 10) : has f.fl 8 = false := by
  cases hb : has f.fl 8
  · rfl
  · exfalso
    have h8 := kFl8 f.ty f.fl h.ty.1 h.fl.1 h.fl.2 (by rw [h.mask]; exact hb)
    have hc : f.ty = 2 ∨ f.ty = 3 ∨ f.ty = 4 ∨ f.ty = 6 ∨ f.ty = 7 ∨ f.ty = 8 ∨ f.ty = 9 := by have := h.ty; omega
    rcases hc with e | e | e | e | e | e | e <;> rw [e] at h8 <;> exact absurd h8 (by decide)
theorem Hd.pad0 {f : Fr} (h : Hd f) (h0 : f.ty ≠ 0) (h1 : f.ty ≠ 1) (h5 : f.ty ≠ 5) : padB f = false := by
  unfold padB
  by_cases h10 : f.ty < 10
  · rw [h.no8 h0 h1 h5 h10, Bool.and_false]
  · rw [decide_eq_false h10]
    rfl
theorem pad_has {f : Fr} (h : f.ty = 0 ∨ f.ty = 1 ∨ f.ty = 5) : padB f = has f.fl 8 := by
  unfold padB
  rw [decide_eq_true (show f.ty < 10 by omega)]
  rfl
theorem mayPad_f (f : Fr) (h : Hd f) : heraldref06_mayPad.f f.ty f.fl = some (padB f) := by
  have hh := has_f f.fl h.fl.1 h.fl.2
  unfold heraldref06_mayPad.f
  by_cases h0 : f.ty = 0
  · rw [if_pos h0, hh.2.1, pad_has (.inl h0)]
    rfl
  · rw [if_neg h0]
    by_cases h1 : f.ty = 1
    · rw [if_pos h1, hh.2.1, pad_has (.inr (.inl h1))]
      rfl
    · rw [if_neg h1]
      by_cases h5 : f.ty = 5
      · rw [if_pos h5, hh.2.1, pad_has (.inr (.inr h5))]
        rfl
      · rw [if_neg h5, h.pad0 h0 h1 h5]
theorem mayPad_calls (f : Fr) (x : Bool) (w : World) (h : Hd f) (hx : padB f = x) : Calls Tryd.prog 95 #[.int .i64 f.ty, .int .i64 f.fl] w fun e w' => e = .returned (.bool x) ∧ Below w.heap.size w w' :=
  (heraldref06_mayPad.calls f.ty f.fl x w (by rw [mayPad_f f h, hx])).mono fun _ _ r => ⟨r.1, drawn_below r.2⟩
theorem streamR_f (t st : Int) (h0 : 0 ≤ t) : heraldref06_streamRight.f 1 t st = some (stB t st) := by
  by_cases h10 : t < 10
  · obtain rfl | rfl | rfl | rfl | rfl | rfl | rfl | rfl | rfl | rfl : t = 0 ∨ t = 1 ∨ t = 2 ∨ t = 3 ∨ t = 4 ∨ t = 5 ∨ t = 6 ∨ t = 7 ∨ t = 8 ∨ t = 9 := by omega
    all_goals rfl
  · unfold heraldref06_streamRight.f heraldref06_streamRight.j0 stB kSt
    dsimp only
    rw [if_neg (by omega), if_neg (by omega), if_neg h10]
    have e7 : ¬ (t == 7) = true := by simp; omega
    rw [if_neg e7, if_neg (by omega), if_neg (by omega), if_neg (by omega), if_neg (by omega), if_neg (by omega), if_neg (by omega)]
    rfl
theorem streamR_calls (t st : Int) (x : Bool) (w : World) (h0 : 0 ≤ t) (hx : stB t st = x) : Calls Tryd.prog 64 #[.int .i64 t, .int .i64 st] w fun e w' => e = .returned (.bool x) ∧ Below w.heap.size w w' :=
  (heraldref06_streamRight.calls 1 t st x w (by rw [streamR_f t st h0, hx])).mono fun _ _ r => ⟨r.1, drawn_below r.2⟩
theorem has8_kFl (f : Fr) (h : f.ty = 0 ∨ f.ty = 1 ∨ f.ty = 5) : has (kFl f.ty) 8 = true := by
  rcases h with e | e | e <;> rw [e] <;> decide
theorem aheadI_not (f : Fr) (h0 : f.ty ≠ 0) (h1 : f.ty ≠ 1) (h5 : f.ty ≠ 5) (ht : 0 ≤ f.ty) : aheadI f = 0 := by
  unfold aheadI
  rw [if_neg, if_neg (fun h => h1 h.1), if_neg h5]
  · rfl
  · rintro ⟨_, h8, h10⟩
    have hc : f.ty = 2 ∨ f.ty = 3 ∨ f.ty = 4 ∨ f.ty = 6 ∨ f.ty = 7 ∨ f.ty = 8 ∨ f.ty = 9 := by omega
    rcases hc with e | e | e | e | e | e | e <;> rw [e] at h8 <;> exact absurd h8 (by decide)
theorem aheadI_is (f : Fr) (h : Hd f) : aheadI f = (if padB f = true then 1 else 0) + aheadR f := by
  by_cases hc : f.ty = 0 ∨ f.ty = 1 ∨ f.ty = 5
  · rw [pad_has hc]
    unfold aheadI aheadR
    by_cases h8 : has f.fl 8 = true
    · rw [if_pos ⟨h8, has8_kFl f hc, by omega⟩, if_pos h8]
    · rw [if_neg (fun q => h8 q.1), if_neg h8]
  · rw [h.pad0 (by omega) (by omega) (by omega), aheadI_not f (by omega) (by omega) (by omega) h.ty.1]
    unfold aheadR
    rw [if_neg (show ¬ (f.ty = 1 ∧ has f.fl 32 = true) from fun q => hc (.inr (.inl q.1))), if_neg (show ¬ f.ty = 5 from fun q => hc (.inr (.inr q))), if_neg (by decide)]
    rfl
theorem aheadD_f (f : Fr) (h : Hd f) : heraldref06_ahead.f 2 f.ty f.fl = some (aheadI f) := by
  have hh := has_f f.fl h.fl.1 h.fl.2
  have w0 : ∀ x : Int, 0 ≤ x → x ≤ 100 → wrap64 x = x := fun x a b => by unfold wrap64; omega
  have e : ∀ x : Int, 0 ≤ x → x ≤ 1 → heraldref06_ahead.j0 2 f.ty f.fl x = some (x + aheadR f) := by
    intro x a b
    unfold heraldref06_ahead.j0 aheadR
    dsimp only
    by_cases h1 : f.ty = 1
    · rw [if_pos h1, hh.2.2]
      show heraldref06_ahead.j1 1 f.ty x (has f.fl 32) = _
      unfold heraldref06_ahead.j1
      dsimp only
      cases h32 : has f.fl 32
      · rw [if_neg (by decide), if_neg (by omega), if_neg (by rintro ⟨_, q⟩; cases q), if_neg (by omega)]
        simp
      · rw [if_pos rfl, if_pos ⟨h1, rfl⟩, w0 _ (by omega) (by omega)]
    · rw [if_neg h1, if_neg (fun q => h1 q.1)]
      unfold heraldref06_ahead.j1
      dsimp only
      rw [if_neg (by decide)]
      by_cases h5 : f.ty = 5
      · rw [if_pos h5, if_pos h5, w0 _ (by omega) (by omega)]
      · rw [if_neg h5, if_neg h5]
        simp
  rw [aheadI_is f h]
  unfold heraldref06_ahead.f
  rw [mayPad_f f h]
  show (if padB f = true then heraldref06_ahead.j0 2 f.ty f.fl 1 else heraldref06_ahead.j0 2 f.ty f.fl 0) = _
  split
  · exact e 1 (by decide) (by decide)
  · exact e 0 (by decide) (by decide)
theorem aheadD_calls (f : Fr) (x : Int) (w : World) (h : Hd f) (hx : aheadI f = x) : Calls Tryd.prog 100 #[.int .i64 f.ty, .int .i64 f.fl] w fun e w' => e = .returned (.int .i64 x) ∧ Below w.heap.size w w' :=
  (heraldref06_ahead.calls 2 f.ty f.fl x w (by rw [aheadD_f f h, hx])).mono fun _ _ r => ⟨r.1, drawn_below r.2⟩
/-- May the payload have this length? -/
def lenR (f : Fr) (m : Int) : Bool :=
  if f.ty = 0 ∨ f.ty = 1 ∨ f.ty = 5 then decide (aheadI f ≤ m)
  else if f.ty = 2 then m == 5
  else if f.ty = 3 ∨ f.ty = 8 then m == 4
  else if f.ty = 4 then (m % 6 == 0) && (!has f.fl 1 || m == 0)
  else if f.ty = 6 then m == 8
  else if f.ty = 7 then decide (8 ≤ m)
  else true
theorem lenR_f (f : Fr) (m : Int) (h : Hd f) (hm : 0 ≤ m) : heraldref06_lengthRight.f 4 f.ty f.fl m = some (lenR f m) := by
  have hh := has_f f.fl h.fl.1 h.fl.2
  have ha := aheadD_f f h
  have hle := heraldref06_ahead.mono f.ty f.fl 2 _ ha
  have j0t : ∀ x : Bool, x = true → heraldref06_lengthRight.j0 4 f.ty f.fl m f.ty x = some (decide (aheadI f ≤ m)) := by
    intro x hx
    unfold heraldref06_lengthRight.j0
    dsimp only
    rw [if_pos hx, hle]
    rfl
  have j1t : ∀ x : Bool, x = true → heraldref06_lengthRight.j1 3 f.fl m f.ty x = some (m == 4) := by
    intro x hx
    unfold heraldref06_lengthRight.j1
    dsimp only
    rw [if_pos hx]
  have b : ∀ a c : Int, a = c → (a == c) = true := fun a c e => beq_iff_eq.mpr e
  have nb : ∀ a c : Int, a ≠ c → ¬ (a == c) = true := fun a c e q => e (beq_iff_eq.mp q)
  unfold heraldref06_lengthRight.f lenR
  by_cases h0 : f.ty = 0
  · rw [if_pos h0, if_pos (.inl h0)]
    exact j0t _ (b _ _ h0)
  rw [if_neg h0]
  by_cases h1 : f.ty = 1
  · rw [if_pos h1, if_pos (.inr (.inl h1))]
    exact j0t _ (b _ _ h1)
  rw [if_neg h1]
  by_cases h5 : f.ty = 5
  · rw [if_pos (.inr (.inr h5))]
    exact j0t _ (b _ _ h5)
  rw [if_neg (show ¬ (f.ty = 0 ∨ f.ty = 1 ∨ f.ty = 5) by omega)]
  unfold heraldref06_lengthRight.j0
  dsimp only
  rw [if_neg (nb _ _ h5)]
  by_cases h2 : f.ty = 2
  · rw [if_pos h2, if_pos h2]
  rw [if_neg h2, if_neg h2]
  by_cases h3 : f.ty = 3
  · rw [if_pos h3, if_pos (.inl h3)]
    exact j1t _ (b _ _ h3)
  rw [if_neg h3]
  by_cases h8 : f.ty = 8
  · rw [if_pos (.inr h8)]
    exact j1t _ (b _ _ h8)
  rw [if_neg (show ¬ (f.ty = 3 ∨ f.ty = 8) by omega)]
  unfold heraldref06_lengthRight.j1
  dsimp only
  rw [if_neg (nb _ _ h8)]
  by_cases h4 : f.ty = 4
  · rw [if_pos h4, if_pos h4, Int.tmod_eq_emod_of_nonneg hm]
    by_cases h6 : m % 6 = 0
    · rw [if_pos h6, hh.1, b _ _ h6]
      show (if has f.fl 1 = true then some (m == 0) else some true) = _
      cases has f.fl 1 <;> simp
    · rw [if_neg h6]
      have : (m % 6 == 0) = false := beq_eq_false_iff_ne.mpr h6
      rw [this]
      rfl
  rw [if_neg h4, if_neg h4]
  by_cases h6 : f.ty = 6
  · rw [if_pos h6, if_pos h6]
  rw [if_neg h6, if_neg h6]
  by_cases h7 : f.ty = 7
  · rw [if_pos h7, if_pos h7]
  rw [if_neg h7, if_neg h7]
theorem lenR_calls (f : Fr) (m : Int) (x : Bool) (w : World) (h : Hd f) (hm : 0 ≤ m) (hx : lenR f m = x) : Calls Tryd.prog 65 #[.int .i64 f.ty, .int .i64 f.fl, .int .i64 m] w fun e w' => e = .returned (.bool x) ∧ Below w.heap.size w w' :=
  (heraldref06_lengthRight.calls 4 f.ty f.fl m x w (by rw [lenR_f f m h hm, hx])).mono fun _ _ r => ⟨r.1, drawn_below r.2⟩
/-- The rest of the payload is Data. -/
def t5 (f : Fr) (p : ByteArray) : Fr := if f.ty = 4 then { f with ps := pars (p.size / 6) p.data.toList, da := ByteArray.empty } else { f with da := p }
def t4 (f : Fr) (p : ByteArray) : Fr := if f.ty = 3 ∨ f.ty = 7 then t5 { f with co := num (p.extract 0 4) } (p.extract 4 p.size) else t5 f p
def t3 (f : Fr) (p : ByteArray) : Fr := if f.ty = 5 ∨ f.ty = 7 ∨ f.ty = 8 then t4 { f with la := num (p.extract 0 4) % 2147483648 } (p.extract 4 p.size) else t4 f p
/-- What the document's read makes of a frame and its payload. -/
def t2 (f : Fr) (p : ByteArray) : Fr := if (f.ty == 2 || (f.ty == 1 && has f.fl 32)) = true then t3 (wtF f p) (p.extract 5 p.size) else t3 f p
/-- The sizes that it asks for. -/
structure Sz2 (f : Fr) (p : ByteArray) : Prop where
  w : (f.ty == 2 || (f.ty == 1 && has f.fl 32)) = true → 5 ≤ p.size
  l : f.ty = 5 ∨ f.ty = 8 ∨ f.ty = 3 → 4 ≤ p.size
  g : f.ty = 7 → 8 ≤ p.size
  s : f.ty = 4 → p.size % 6 = 0
theorem ext_zero (p : ByteArray) (h : p.size = 0) : p = ByteArray.empty := by
  apply ByteArray.ext
  exact Array.eq_empty_of_size_eq_zero h
theorem ext_end (p : ByteArray) (k : Nat) (h : p.size = k) : p.extract k p.size = ByteArray.empty := ext_zero _ (by rw [ByteArray.size_extract]; omega)
theorem ext_allR (p : ByteArray) (k : Nat) (h : p.size = k) : p.extract 0 k = p := by
  subst h
  apply ByteArray.ext
  rw [ByteArray.data_extract]
  exact Array.extract_size
theorem ext_ext (p : ByteArray) (h : 8 ≤ p.size) : (p.extract 4 p.size).extract 0 4 = p.extract 4 8 ∧ (p.extract 4 p.size).extract 4 (p.extract 4 p.size).size = p.extract 8 p.size := by
  constructor
  · rw [ByteArray.extract_extract]
    congr 1
    omega
  · rw [ByteArray.extract_extract, ByteArray.size_extract]
    congr 1
    omega
/-- Read as the document says it. -/
def rdRef (f : Fr) (m : Int) (p : ByteArray) : Rd :=
  if padB f = true ∧ m - aheadI f < bt p 0 then .bad 1
  else ⟨t2 (if padB f = true then { f with pad := bt p 0 } else f) (if padB f = true then p.extract 1 (m - bt p 0).toNat else p), 9 + m, 0, 0⟩
theorem takes_t2 (f : Fr) (p : ByteArray) (h2 : f.ty = 2 → p.size = 5) (h3 : f.ty = 3 ∨ f.ty = 8 → p.size = 4) (h4 : f.ty = 4 → p.size % 6 = 0 ∧ ¬ (has f.fl 1 = true ∧ 0 < p.size)) (h6 : f.ty = 6 → p.size = 8) (h7 : f.ty = 7 → 8 ≤ p.size) (hd : f.da = ByteArray.empty) : takes f p = some (t2 f p) := by
  unfold takes t2
  by_cases t1 : f.ty = 1
  · rw [if_pos t1, t1]
    unfold headersF
    have e (f' : Fr) (p' : ByteArray) (h : f'.ty = 1) : t3 f' p' = { f' with da := p' } := by
      unfold t3 t4 t5
      rw [if_neg (by omega), if_neg (by omega), if_neg (by omega)]
    cases hh : has f.fl 32
    · rw [if_neg (by decide), if_neg (by decide), e f p t1]
    · rw [if_pos rfl, if_pos (by decide), e (wtF f p) _ t1]
  rw [if_neg t1]
  by_cases t2 : f.ty = 2
  · have h5 := h2 t2
    rw [if_pos t2, if_pos h5, if_pos (show (f.ty == 2 || (f.ty == 1 && has f.fl 32)) = true by rw [t2]; rfl)]
    unfold t3 t4 t5
    have q : (wtF f p).ty = 2 := t2
    rw [if_neg (by omega), if_neg (by omega), if_neg (by omega)]
    have e : p.extract 5 p.size = ByteArray.empty := ext_end p 5 h5
    rw [e]
    congr 1
    unfold wtF
    rw [hd]
  have hw : ¬ (f.ty == 2 || (f.ty == 1 && has f.fl 32)) = true := by
    rw [beq_eq_false_iff_ne.mpr t1, beq_eq_false_iff_ne.mpr t2]
    simp
  rw [if_neg t2, if_neg hw]
  unfold t3
  by_cases t3 : f.ty = 3
  · have h5 := h3 (.inl t3)
    rw [if_pos t3, if_pos h5, if_neg (by omega)]
    unfold t4 t5
    rw [if_pos (.inl t3), if_neg (by show ¬ f.ty = 4; omega), ext_end p 4 h5, ext_allR p 4 h5]
    congr 1
    rw [← hd]
  rw [if_neg t3]
  by_cases t4' : f.ty = 4
  · have h5 := h4 t4'
    rw [if_pos t4', if_pos h5, if_neg (by omega)]
    unfold t4 t5
    rw [if_neg (by omega), if_pos t4']
    congr 1
    rw [← hd]
  rw [if_neg t4']
  by_cases t5' : f.ty = 5
  · rw [if_pos t5', if_pos (.inl t5')]
    unfold t4 t5
    rw [if_neg (by show ¬ (f.ty = 3 ∨ f.ty = 7); omega), if_neg (by show ¬ f.ty = 4; omega)]
    rfl
  rw [if_neg t5']
  by_cases t6 : f.ty = 6
  · have h5 := h6 t6
    rw [if_pos t6, if_pos h5, if_neg (by omega)]
    unfold t4 t5
    rw [if_neg (by omega), if_neg (by omega)]
  rw [if_neg t6]
  by_cases t7 : f.ty = 7
  · have h5 := h7 t7
    have hx := ext_ext p h5
    rw [if_pos t7, if_pos h5, if_pos (.inr (.inl t7))]
    unfold t4 t5
    rw [if_pos (by show f.ty = 3 ∨ f.ty = 7; omega), if_neg (by show ¬ f.ty = 4; omega), hx.1, hx.2]
    rfl
  rw [if_neg t7]
  by_cases t8 : f.ty = 8
  · have h5 := h3 (.inr t8)
    rw [if_pos t8, if_pos h5, if_pos (.inr (.inr t8))]
    unfold t4 t5
    rw [if_neg (by show ¬ (f.ty = 3 ∨ f.ty = 7); omega), if_neg (by show ¬ f.ty = 4; omega), ext_end p 4 h5, ext_allR p 4 h5]
    congr 1
    rw [← hd]
  rw [if_neg t8, if_neg (by omega)]
  unfold t4 t5
  rw [if_neg (by omega), if_neg (by omega)]
/-- The two readings agree. -/
theorem rdRest_ref (f : Fr) (h : Hd f) (hd : f.da = ByteArray.empty) (m : Nat) (p : ByteArray) (hp : p.size = m) :
    rdRest f m p = if stB f.ty f.st = false then .bad 1 else if lenR f m = false then (if f.ty = 2 then ⟨Fr.zero, 9 + m, 6, f.st⟩ else .bad 6) else rdRef f m p := by
  unfold rdRest
  by_cases hs : stB f.ty f.st = false
  · rw [if_pos hs, if_pos hs]
  rw [if_neg hs, if_neg hs]
  unfold rdRef
  by_cases hc : f.ty = 0 ∨ f.ty = 1 ∨ f.ty = 5
  · have hl : lenR f m = decide (aheadI f ≤ (m : Int)) := by unfold lenR; rw [if_pos hc]
    rw [hl]
    by_cases h4 : (m : Int) < aheadI f
    · rw [if_pos h4, decide_eq_false (by omega), if_pos rfl, if_neg (by omega)]
    · rw [if_neg h4, decide_eq_true (by omega)]
      by_cases h5 : padB f = true ∧ (m : Int) - aheadI f < bt p 0
      · rw [if_pos h5, if_pos h5]
        rfl
      · rw [if_neg h5, if_neg h5]
        have e : ∀ (f' : Fr) (p' : ByteArray), f'.ty = f.ty → f'.da = ByteArray.empty → takes f' p' = some (t2 f' p') := fun f' p' q qd => takes_t2 f' p' (fun _ => by omega) (fun _ => by omega) (fun _ => by omega) (fun _ => by omega) (fun _ => by omega) qd
        rw [e _ _ (by split <;> rfl) (by split <;> exact hd)]
        rfl
  · have ha := aheadI_not f (by omega) (by omega) (by omega) h.ty.1
    have hpd := h.pad0 (by omega) (by omega) (by omega)
    have np : ¬ padB f = true := by rw [hpd]; decide
    have np2 : ¬ (padB f = true ∧ (m : Int) - aheadI f < bt p 0) := fun q => np q.1
    rw [if_neg (show ¬ (m : Int) < aheadI f by rw [ha]; omega), if_neg np2, if_neg np2, if_neg np, if_neg np]
    unfold lenR
    rw [if_neg hc]
    have tk := takes_t2 f p
    by_cases t2' : f.ty = 2
    · rw [if_pos t2', if_pos t2']
      by_cases h5 : p.size = 5
      · rw [tk (fun _ => h5) (fun _ => by omega) (fun _ => by omega) (fun _ => by omega) (fun _ => by omega) hd]
        have : ((m : Int) == 5) = true := beq_iff_eq.mpr (by omega)
        rw [this]
        rfl
      · have e : takes f p = none := by unfold takes; rw [if_neg (by omega), if_pos t2', if_neg h5]
        have : ((m : Int) == 5) = false := beq_eq_false_iff_ne.mpr (by omega)
        rw [e, this]
        rfl
    rw [if_neg t2', if_neg t2']
    by_cases t38 : f.ty = 3 ∨ f.ty = 8
    · rw [if_pos t38]
      by_cases h5 : p.size = 4
      · rw [tk (fun _ => by omega) (fun _ => h5) (fun _ => by omega) (fun _ => by omega) (fun _ => by omega) hd]
        have : ((m : Int) == 4) = true := beq_iff_eq.mpr (by omega)
        rw [this]
        rfl
      · have e : takes f p = none := by
          unfold takes
          rw [if_neg (show ¬ f.ty = 1 by omega), if_neg t2']
          by_cases t3' : f.ty = 3
          · rw [if_pos t3', if_neg h5]
          · rw [if_neg t3', if_neg (show ¬ f.ty = 4 by omega), if_neg (show ¬ f.ty = 5 by omega), if_neg (show ¬ f.ty = 6 by omega), if_neg (show ¬ f.ty = 7 by omega), if_pos (show f.ty = 8 by omega), if_neg h5]
        have : ((m : Int) == 4) = false := beq_eq_false_iff_ne.mpr (by omega)
        rw [e, this]
        rfl
    rw [if_neg t38]
    by_cases t4' : f.ty = 4
    · rw [if_pos t4']
      by_cases h5 : p.size % 6 = 0 ∧ ¬ (has f.fl 1 = true ∧ 0 < p.size)
      · rw [tk (fun _ => by omega) (fun _ => by omega) (fun _ => h5) (fun _ => by omega) (fun _ => by omega) hd]
        have e1 : ((m : Int) % 6 == 0) = true := beq_iff_eq.mpr (by omega)
        have e2 : (!has f.fl 1 || (m : Int) == 0) = true := by
          cases hh : has f.fl 1
          · rfl
          · rw [hh] at h5
            have : ((m : Int) == 0) = true := beq_iff_eq.mpr (by simp only [true_and] at h5; omega)
            rw [this]
            rfl
        rw [e1, e2]
        rfl
      · have e : takes f p = none := by unfold takes; rw [if_neg (show ¬ f.ty = 1 by omega), if_neg t2', if_neg (show ¬ f.ty = 3 by omega), if_pos t4', if_neg h5]
        have e1 : (((m : Int) % 6 == 0) && (!has f.fl 1 || (m : Int) == 0)) = false := by
          by_cases h6 : p.size % 6 = 0
          · have hh : has f.fl 1 = true ∧ 0 < p.size := by
              by_cases q : has f.fl 1 = true ∧ 0 < p.size
              · exact q
              · exact absurd ⟨h6, q⟩ h5
            have : ((m : Int) == 0) = false := beq_eq_false_iff_ne.mpr (by omega)
            rw [hh.1, this]
            simp
          · have : ((m : Int) % 6 == 0) = false := beq_eq_false_iff_ne.mpr (by omega)
            rw [this]
            rfl
        rw [e, e1]
        rfl
    rw [if_neg t4']
    by_cases t6 : f.ty = 6
    · rw [if_pos t6]
      by_cases h5 : p.size = 8
      · rw [tk (fun _ => by omega) (fun _ => by omega) (fun _ => by omega) (fun _ => h5) (fun _ => by omega) hd]
        have : ((m : Int) == 8) = true := beq_iff_eq.mpr (by omega)
        rw [this]
        rfl
      · have e : takes f p = none := by unfold takes; rw [if_neg (show ¬ f.ty = 1 by omega), if_neg t2', if_neg (show ¬ f.ty = 3 by omega), if_neg t4', if_neg (show ¬ f.ty = 5 by omega), if_pos t6, if_neg h5]
        have : ((m : Int) == 8) = false := beq_eq_false_iff_ne.mpr (by omega)
        rw [e, this]
        rfl
    rw [if_neg t6]
    by_cases t7 : f.ty = 7
    · rw [if_pos t7]
      by_cases h5 : 8 ≤ p.size
      · rw [tk (fun _ => by omega) (fun _ => by omega) (fun _ => by omega) (fun _ => by omega) (fun _ => h5) hd, decide_eq_true (show (8 : Int) ≤ m by omega)]
        rfl
      · have e : takes f p = none := by unfold takes; rw [if_neg (show ¬ f.ty = 1 by omega), if_neg t2', if_neg (show ¬ f.ty = 3 by omega), if_neg t4', if_neg (show ¬ f.ty = 5 by omega), if_neg t6, if_pos t7, if_neg h5]
        rw [e, decide_eq_false (show ¬ (8 : Int) ≤ m by omega)]
        rfl
    rw [if_neg t7, tk (fun _ => by omega) (fun _ => by omega) (fun _ => by omega) (fun _ => by omega) (fun _ => by omega) hd]
    rfl
/-- The sizes behind the tests. -/
theorem sz2 (f : Fr) (h : Hd f) (m : Nat) (p : ByteArray) (hp : p.size = m) (hl : lenR f m = true) (h5 : ¬ (padB f = true ∧ (m : Int) - aheadI f < bt p 0)) (f' : Fr) (p' : ByteArray) (hf : (if padB f = true then { f with pad := bt p 0 } else f) = f') (hp' : (if padB f = true then p.extract 1 ((m : Int) - bt p 0).toNat else p) = p') :
    Sz2 f' p' ∧ p'.size ≤ m ∧ (padB f = true → 1 ≤ m ∧ (bt p 0).toNat + 1 ≤ m) := by
  have e0 : f'.ty = f.ty ∧ f'.fl = f.fl := by rw [← hf]; split <;> exact ⟨rfl, rfl⟩
  have bp := bt_range p 0
  have haR := aheadR_nonneg f
  unfold lenR at hl
  by_cases hc : f.ty = 0 ∨ f.ty = 1 ∨ f.ty = 5
  · rw [if_pos hc] at hl
    have hl := of_decide_eq_true hl
    have ha := aheadI_is f h
    have hsz : aheadR f ≤ p'.size ∧ p'.size ≤ m ∧ (padB f = true → 1 ≤ m ∧ (bt p 0).toNat + 1 ≤ m) := by
      cases hpb : padB f
      · rw [hpb, if_neg (by decide)] at hp' ha
        subst hp'
        exact ⟨by omega, by omega, fun q => by cases q⟩
      · rw [hpb, if_pos rfl] at hp' ha
        have h6 : ¬ (m : Int) - aheadI f < bt p 0 := fun q => h5 ⟨hpb, q⟩
        have hq : p'.size = m - (bt p 0).toNat - 1 := by rw [← hp', ByteArray.size_extract]; omega
        exact ⟨by omega, by omega, fun _ => by omega⟩
    refine ⟨⟨fun q => ?_, fun q => ?_, fun q => ?_, fun q => ?_⟩, hsz.2⟩
    · rw [e0.1, e0.2] at q
      simp only [Bool.or_eq_true, Bool.and_eq_true, beq_iff_eq] at q
      have q1 : f.ty = 1 ∧ has f.fl 32 = true := by
        rcases q with q | q
        · omega
        · exact q
      have := aheadR_1 f q1.1 q1.2
      omega
    · have q5 : f.ty = 5 := by omega
      have := aheadR_5 f q5
      omega
    · omega
    · omega
  · have hpd := h.pad0 (by omega) (by omega) (by omega)
    rw [hpd, if_neg (by decide)] at hp'
    subst hp'
    rw [if_neg hc] at hl
    refine ⟨⟨fun q => ?_, fun q => ?_, fun q => ?_, fun q => ?_⟩, by omega, fun q => by rw [hpd] at q; cases q⟩
    · rw [e0.1, e0.2] at q
      simp only [Bool.or_eq_true, Bool.and_eq_true, beq_iff_eq] at q
      have q1 : f.ty = 2 := by omega
      rw [if_pos q1] at hl
      have := beq_iff_eq.mp hl
      omega
    · have q1 : f.ty = 3 ∨ f.ty = 8 := by omega
      rw [if_neg (by omega), if_pos q1] at hl
      have := beq_iff_eq.mp hl
      omega
    · rw [if_neg (by omega), if_neg (by omega), if_neg (by omega), if_neg (by omega), if_pos (by omega)] at hl
      have := of_decide_eq_true hl
      omega
    · rw [if_neg (by omega), if_neg (by omega), if_pos (by omega)] at hl
      simp only [Bool.and_eq_true] at hl
      have := beq_iff_eq.mp hl.1
      omega
/-- The first bit of four bytes. -/
theorem top_bit (p : ByteArray) (h : 4 ≤ p.size) : decide (2147483647 < num (p.extract 0 4)) = decide (128 ≤ bt p 0) := by
  obtain ⟨x, y, z, u, r, hbl⟩ : ∃ x y z u r, p.data.toList = x :: y :: z :: u :: r := by
    have hbl : 4 ≤ p.data.toList.length := h
    match hl : p.data.toList, hbl with
    | x :: y :: z :: u :: r, _ => exact ⟨x, y, z, u, r, rfl⟩
  have e : num (p.extract 0 4) = numFrom 0 [x, y, z, u] := by
    unfold num
    rw [ByteArray.data_extract, Array.toList_extract, List.extract_eq_take_drop, hbl]
    rfl
  have e0 : bt p 0 = (x.toNat : Int) := by
    have := bt_list p 0 (by omega)
    rw [show ((0 : Nat) : Int) = 0 from rfl] at this
    rw [this]
    simp only [hbl, List.getElem_cons_zero]
  have hx := x.toNat_lt
  have hy := y.toNat_lt
  have hz := z.toNat_lt
  have hu := u.toNat_lt
  rw [e, e0]
  simp only [numFrom]
  apply decide_eq_decide.mpr
  omega
end Go.Proofs.YtoffhlbdfhhhjaaDoor.Fr
namespace Go.Proofs.YtoffhlbdfhhhjaaDoor.Fr
open Go Go.RowKit Go.Proofs.YtoffhlbdfhhhjaaDoorW.PrintWords Go.Proofs.YtoffhlbdfhhhjaaDoorW.PrintLast Go.Proofs.YtoffhlbdfhhhjaaDoorW.PrintMore Go.Proofs.YtoffhlbdfhhhjaaDoor.QL
set_option linter.unusedSimpArgs false
set_option linter.unusedVariables false
set_option maxHeartbeats 40000000
set_option maxRecDepth 100000
/-- The frame that the document's read reads into, and the two answers' blocks. -/
structure RI (w W : World) (g2 g4 g6 : Nat) (f : Fr) (A : Option Addr) (c : Nat) : Prop where
  t : TInv w W g2 f A c
  z4 : At W g4 Fr.zero none 0
  z6 : W.heap[g6]? = some (.cells #[.int .i64 0, .int .i64 0] 35 (0, 0))
  ne : g2 < g4 ∧ g4 < g6
theorem RI.below {w W W1 : World} {g2 g4 g6 : Nat} {f : Fr} {A : Option Addr} {c : Nat} (r : RI w W g2 g4 g6 f A c) (hb : Below W.heap.size W W1) : RI w W1 g2 g4 g6 f A c := ⟨r.t.below hb, r.z4.low hb, blk_below r.z6 hb, r.ne⟩
theorem RI.put3 {w W : World} {g2 g4 g6 : Nat} {f : Fr} {A : Option Addr} {c : Nat} (r : RI w W g2 g4 g6 f A c) (x : ByteArray) : RI w (W.setCell ⟨g2, 3, none⟩ (.string x)) g2 g4 g6 { f with da := x } A c := ⟨r.t.put3 x, blk_far r.z4 (by show g4 ≠ g2; have := r.ne; omega) _, blk_far r.z6 (by show g6 ≠ g2; have := r.ne; omega) _, r.ne⟩
theorem RI.put4 {w W : World} {g2 g4 g6 : Nat} {f : Fr} {A : Option Addr} {c : Nat} (r : RI w W g2 g4 g6 f A c) (x : Int) : RI w (W.setCell ⟨g2, 4, none⟩ (.int .i64 x)) g2 g4 g6 { f with pad := x } A c := ⟨r.t.put4 x, blk_far r.z4 (by show g4 ≠ g2; have := r.ne; omega) _, blk_far r.z6 (by show g6 ≠ g2; have := r.ne; omega) _, r.ne⟩
theorem RI.put5 {w W : World} {g2 g4 g6 : Nat} {f : Fr} {A : Option Addr} {c : Nat} (r : RI w W g2 g4 g6 f A c) (x : Int) : RI w (W.setCell ⟨g2, 5, none⟩ (.int .i64 x)) g2 g4 g6 { f with dep := x } A c := ⟨r.t.put5 x, blk_far r.z4 (by show g4 ≠ g2; have := r.ne; omega) _, blk_far r.z6 (by show g6 ≠ g2; have := r.ne; omega) _, r.ne⟩
theorem RI.put6 {w W : World} {g2 g4 g6 : Nat} {f : Fr} {A : Option Addr} {c : Nat} (r : RI w W g2 g4 g6 f A c) (x : Bool) : RI w (W.setCell ⟨g2, 6, none⟩ (.bool x)) g2 g4 g6 { f with ex := x } A c := ⟨r.t.put6 x, blk_far r.z4 (by show g4 ≠ g2; have := r.ne; omega) _, blk_far r.z6 (by show g6 ≠ g2; have := r.ne; omega) _, r.ne⟩
theorem RI.put7 {w W : World} {g2 g4 g6 : Nat} {f : Fr} {A : Option Addr} {c : Nat} (r : RI w W g2 g4 g6 f A c) (x : Int) : RI w (W.setCell ⟨g2, 7, none⟩ (.int .i64 x)) g2 g4 g6 { f with wt := x } A c := ⟨r.t.put7 x, blk_far r.z4 (by show g4 ≠ g2; have := r.ne; omega) _, blk_far r.z6 (by show g6 ≠ g2; have := r.ne; omega) _, r.ne⟩
theorem RI.put8 {w W : World} {g2 g4 g6 : Nat} {f : Fr} {A : Option Addr} {c : Nat} (r : RI w W g2 g4 g6 f A c) (x : Int) : RI w (W.setCell ⟨g2, 8, none⟩ (.int .i64 x)) g2 g4 g6 { f with co := x } A c := ⟨r.t.put8 x, blk_far r.z4 (by show g4 ≠ g2; have := r.ne; omega) _, blk_far r.z6 (by show g6 ≠ g2; have := r.ne; omega) _, r.ne⟩
theorem RI.put9 {w W : World} {g2 g4 g6 : Nat} {f : Fr} {A : Option Addr} {c : Nat} (r : RI w W g2 g4 g6 f A c) (x : Int) : RI w (W.setCell ⟨g2, 9, none⟩ (.int .i64 x)) g2 g4 g6 { f with la := x } A c := ⟨r.t.put9 x, blk_far r.z4 (by show g4 ≠ g2; have := r.ne; omega) _, blk_far r.z6 (by show g6 ≠ g2; have := r.ne; omega) _, r.ne⟩
theorem RI.put10 {w W : World} {g2 g4 g6 : Nat} {f : Fr} {A : Option Addr} {c : Nat} (r : RI w W g2 g4 g6 f A c) (ps : List S32) (A' : Option Addr) (c' : Nat) : RI w (W.setCell ⟨g2, 10, none⟩ (.slice A' ps.length c')) g2 g4 g6 { f with ps := ps } A' c' := ⟨r.t.put10 ps A' c', blk_far r.z4 (by show g4 ≠ g2; have := r.ne; omega) _, blk_far r.z6 (by show g6 ≠ g2; have := r.ne; omega) _, r.ne⟩
/-- What is none of the three blocks. -/
def Off (g2 g4 g6 k : Nat) : Prop := k ≠ g2 ∧ k ≠ g4 ∧ k ≠ g6
/-- The frame, its params' row apart from the blocks. -/
structure RP (w W : World) (g2 g4 g6 : Nat) (f : Fr) (v : Value) (A : Option Addr) (c : Nat) : Prop where
  inv : RI w W g2 g4 g6 f A c
  val : v = .slice A f.ps.length c
  row : Kd.R k32 32 W w.heap.size (Off g2 g4 g6) v f.ps
theorem RP.below {w W W2 : World} {g2 g4 g6 : Nat} {f : Fr} {v : Value} {A : Option Addr} {c : Nat} (r : RP w W g2 g4 g6 f v A c) (hb : Below W.heap.size W W2) : RP w W2 g2 g4 g6 f v A c := ⟨r.inv.below hb, r.val, Kd.R_below r.row hb⟩
theorem rd_ok {w W W9 : World} {ok : Nat → Prop} {f2 : Fr} {A : Option Addr} {c : Nat} {no : Int} {e : Ending} (he : e = .returned (.tuple #[.agg (f2.cells A c), .int .i64 no, .agg #[.int .i64 0, .int .i64 0]])) (hR : Kd.R k32 32 W w.heap.size ok (.slice A f2.ps.length c) f2.ps)
    (hs : ∀ k, ok k → W9.heap[k]? = W.heap[k]?) (hL : Below w.heap.size w W9) : RdPost w ⟨f2, no, 0, 0⟩ e W9 :=
  ⟨A, c, he, Kd.R_mono (Kd.R_step hR (fun k hk _ => hs k hk)) (fun _ _ => trivial), hL⟩
/-- What holds between two steps of read: F tells the rest. -/
structure Jt (F : Fr → ByteArray → Fr) (P : Int → Nat → Prop) (f M g : Fr) (p : ByteArray) : Prop where
  ty : g.ty = f.ty
  fl : g.fl = f.fl
  ps : g.ps = []
  le : p.size ≤ 65536
  res : F g p = M
  sz : P f.ty p.size
def P3 (t : Int) (n : Nat) : Prop := (t = 5 ∨ t = 8 ∨ t = 3 → 4 ≤ n) ∧ (t = 7 → 8 ≤ n) ∧ (t = 4 → n % 6 = 0)
def P4 (t : Int) (n : Nat) : Prop := (t = 3 ∨ t = 7 → 4 ≤ n) ∧ (t = 4 → n % 6 = 0)
def P5 (t : Int) (n : Nat) : Prop := t = 4 → n % 6 = 0
theorem Hd.of {f g : Fr} (h : Hd f) (e0 : g.ty = f.ty) (e1 : g.fl = f.fl) : Hd g := ⟨by rw [e0]; exact h.ty, by rw [e1]; exact h.fl, by rw [e0, e1]; exact h.mask⟩
theorem res66 (tmps : Array Value) (W : World) (g4 g6 : Nat) (f : Fr) (A : Option Addr) (c : Nat) (no code st : Int) (h4 : tmps.getD 4 undef = .pointer (some ⟨g4, 0, none⟩)) (h5 : tmps.getD 5 undef = .int .i64 no) (h6 : tmps.getD 6 undef = .pointer (some ⟨g6, 0, none⟩)) (hf : At W g4 f A c) (he : W.heap[g6]? = some (.cells #[.int .i64 code, .int .i64 st] 35 (0, 0))) :
    (results Tryd.f66 tmps).run Tryd.prog W = .ok (.tuple #[.agg (f.cells A c), .int .i64 no, .agg #[.int .i64 code, .int .i64 st]]) W := by
  have r1 := run_loadVar_row (P := Tryd.prog) W g4 24 24 (f.cells A c) (0, 0) _ hf Tryd.underlying24 (by rfl) (by kernel_rfl)
  have r2 := run_loadVar_row (P := Tryd.prog) W g6 35 35 #[.int .i64 code, .int .i64 st] (0, 0) _ he Tryd.underlying35 (by rfl) (by kernel_rfl)
  have e : Tryd.f66.results = #[.cell 4 24, .tmp 5, .cell 6 35] := rfl
  simp only [Array.getD_eq_getD_getElem?] at h4 h5 h6
  simp [results, e, h4, h5, h6, asAddr, Sem.run_bind, r1, r2]
theorem alloc3_new (w : World) (a b c : Obj) : (((w.alloc a).alloc b).alloc c).heap[w.heap.size + 1 + 1]? = some c := by
  have h := heap_alloc2_new (w.alloc a) b c
  rw [World.size_alloc] at h
  exact h
theorem alloc3_size (w : World) (a b c : Obj) : (((w.alloc a).alloc b).alloc c).heap.size = w.heap.size + 3 := by rw [World.size_alloc, World.size_alloc, World.size_alloc]
theorem weighed_calls (f : Fr) (A : Option Addr) (c : Nat) (x : Bool) (w : World) (h0 : 0 ≤ f.fl ∧ f.fl ≤ 255) (hx : (f.ty == 2 || (f.ty == 1 && has f.fl 32)) = x) : Calls Tryd.prog 96 #[.agg (f.cells A c)] w fun e w' => e = .returned (.bool x) ∧ Below w.heap.size w w' := by
  have HB := Aside0.mk (Below.refl w.heap.size w)
  have HF := Aside0.mk (has_f f.fl h0.1 h0.2).2.2
  obtain ⟨y, hy⟩ : ∃ y, has f.fl 32 = y := ⟨_, rfl⟩
  have HY := Aside0.mk hy
  rw [hy] at hx
  clear h0 hy
  unfold Fr.cells
  go_enter Tryd.func96, Tryd.ntmps96
  go_upto_region 1 with fail
  obtain ⟨W1, hW⟩ : ∃ W, w.alloc (.cells #[.int .i64 f.ty, .int .i64 f.fl, .int .i64 f.st, .string f.da, .int .i64 f.pad, .int .i64 f.dep, .bool f.ex, .int .i64 f.wt, .int .i64 f.co, .int .i64 f.la, .slice A f.ps.length c] 24) = W := ⟨_, rfl⟩
  obtain ⟨g1, hg⟩ : ∃ g, w.heap.size = g := ⟨_, rfl⟩
  have X1 : Aside0 (At W1 g1 f A c) := ⟨by rw [← hW, ← hg]; exact blk_new w _⟩
  have L1 : Aside0 (Below w.heap.size w W1) := ⟨by rw [← hW]; exact below_alloc HB.out _⟩
  rw [hW, hg]
  clear hW hg
  have z0 := X1.out.c0
  have z1 := X1.out.c1
  by_cases h2 : f.ty = 2
  · have b2 : (f.ty == 2) = true := beq_iff_eq.mpr h2
    rw [b2] at hx
    subst hx
    go_wp2_with fail
    go_ret
    exact ⟨rfl, L1.out⟩
  · have b2 : (f.ty == 2) = false := beq_eq_false_iff_ne.mpr h2
    rw [b2] at hx
    by_cases h1 : f.ty = 1
    · have b1 : (f.ty == 1) = true := beq_iff_eq.mpr h1
      rw [b1] at hx
      clear h1 h2
      simp only [Bool.false_or, Bool.true_and] at hx
      subst hx
      go_wp2_with (go_at_call 101; refine (heraldref06_has.calls f.fl 32 y _ (by rw [HF.out, HY.out])).mono ?_; rintro e w3 ⟨rfl, hb⟩; have L3 := Aside0.mk (below_then L1.out L1.out.size (drawn_below hb)); clear hb)
      go_ret
      exact ⟨rfl, L3.out⟩
    · have b1 : (f.ty == 1) = false := beq_eq_false_iff_ne.mpr h1
      rw [b1] at hx
      simp only [Bool.false_or, Bool.false_and] at hx
      subst hx
      clear h1 h2
      go_wp2_with fail
      go_ret
      exact ⟨rfl, L1.out⟩
theorem flagsR_calls (t x : Int) (w : World) (h0 : 0 ≤ t) (hx : kFl t = x) : Calls Tryd.prog 63 #[.int .i64 t] w fun e w' => e = .returned (.int .i64 x) ∧ Below w.heap.size w w' := by
  have HB := Aside0.mk (Below.refl w.heap.size w)
  subst hx
  by_cases h10 : t < 10
  · obtain rfl | rfl | rfl | rfl | rfl | rfl | rfl | rfl | rfl | rfl : t = 0 ∨ t = 1 ∨ t = 2 ∨ t = 3 ∨ t = 4 ∨ t = 5 ∨ t = 6 ∨ t = 7 ∨ t = 8 ∨ t = 9 := by omega
    · have hi := flagI0
      go_enter Tryd.func63, Tryd.ntmps63
      go_wp2_with fail
      go_ret
      exact ⟨rfl, HB.out⟩
    · have hi := flagI1
      go_enter Tryd.func63, Tryd.ntmps63
      go_wp2_with fail
      go_ret
      exact ⟨rfl, HB.out⟩
    · have hi := flagI2
      go_enter Tryd.func63, Tryd.ntmps63
      go_wp2_with fail
      go_ret
      exact ⟨rfl, HB.out⟩
    · have hi := flagI3
      go_enter Tryd.func63, Tryd.ntmps63
      go_wp2_with fail
      go_ret
      exact ⟨rfl, HB.out⟩
    · have hi := flagI4
      go_enter Tryd.func63, Tryd.ntmps63
      go_wp2_with fail
      go_ret
      exact ⟨rfl, HB.out⟩
    · have hi := flagI5
      go_enter Tryd.func63, Tryd.ntmps63
      go_wp2_with fail
      go_ret
      exact ⟨rfl, HB.out⟩
    · have hi := flagI6
      go_enter Tryd.func63, Tryd.ntmps63
      go_wp2_with fail
      go_ret
      exact ⟨rfl, HB.out⟩
    · have hi := flagI7
      go_enter Tryd.func63, Tryd.ntmps63
      go_wp2_with fail
      go_ret
      exact ⟨rfl, HB.out⟩
    · have hi := flagI8
      go_enter Tryd.func63, Tryd.ntmps63
      go_wp2_with fail
      go_ret
      exact ⟨rfl, HB.out⟩
    · have hi := flagI9
      go_enter Tryd.func63, Tryd.ntmps63
      go_wp2_with fail
      go_ret
      exact ⟨rfl, HB.out⟩
  · have h9 : decide (9 < t) = true := decide_eq_true (by omega)
    have e1 : kFl t = 255 := if_neg h10
    rw [e1]
    clear h0 h10 e1
    go_enter Tryd.func63, Tryd.ntmps63
    go_wp2_with fail
    go_ret
    exact ⟨rfl, HB.out⟩
theorem read66_calls (f : Fr) (p : ByteArray) (w : World) (hd : Hd f) (hps : f.ps = []) (hm : p.size ≤ 65536) (hl : lenR f p.size = true) :
    Calls Tryd.prog 66 #[.agg (f.cells none 0), .string p] w fun e w' => RdPost w (rdRef f p.size p) e w' := by
  have HD := Aside0.mk hd
  have HB := Aside0.mk (Below.refl w.heap.size w)
  have HP := Aside0.mk hm
  have HL := Aside0.mk hl
  have HPS0 := Aside0.mk hps
  obtain ⟨R, hR⟩ : ∃ R, rdRef f p.size p = R := ⟨_, rfl⟩
  have HR := Aside0.mk hR
  rw [hR]
  obtain ⟨M, hM⟩ : ∃ M, t2 (if padB f = true then { f with pad := bt p 0 } else f) (if padB f = true then p.extract 1 ((p.size : Int) - bt p 0).toNat else p) = M := ⟨_, rfl⟩
  have HMA := Aside0.mk hM
  have hw9 : wrap64 (9 + (p.size : Int)) = 9 + (p.size : Int) := by unfold wrap64; omega
  clear hd hps hl hR hM hm
  unfold Fr.cells
  go_enter Tryd.func66, Tryd.ntmps66
  go_upto_region 2 with fail
  obtain ⟨W0, hW0⟩ : ∃ W, ((w.alloc (.cells #[.int .i64 f.ty, .int .i64 f.fl, .int .i64 f.st, .string f.da, .int .i64 f.pad, .int .i64 f.dep, .bool f.ex, .int .i64 f.wt, .int .i64 f.co, .int .i64 f.la, .slice none f.ps.length 0] 24)).alloc (.cells #[.int .i64 0, .int .i64 0, .int .i64 0, .string ⟨#[]⟩, .int .i64 0, .int .i64 0, .bool false, .int .i64 0, .int .i64 0, .int .i64 0, .slice none 0 0] 24)).alloc (.cells #[.int .i64 0, .int .i64 0] 35) = W := ⟨_, rfl⟩
  have HW0s : Aside0 (W0.heap.size = w.heap.size + 3) := ⟨by rw [← hW0]; exact alloc3_size w _ _ _⟩
  have X2 : Aside0 (At W0 w.heap.size f none 0) := ⟨by rw [← hW0]; exact blk_alloc (heap_alloc2_old _ _ _) _⟩
  have X4 : Aside0 (At W0 (w.heap.size + 1) Fr.zero none 0) := ⟨by rw [← hW0]; exact blk_alloc (heap_alloc2_new _ _ _) _⟩
  have X6 : Aside0 (W0.heap[w.heap.size + 1 + 1]? = some (.cells #[.int .i64 0, .int .i64 0] 35 (0, 0))) := ⟨by rw [← hW0]; exact alloc3_new w _ _ _⟩
  have L0 : Aside0 (Below w.heap.size w W0) := ⟨by rw [← hW0]; exact below_alloc (below_alloc (below_alloc HB.out _) _) _⟩
  obtain ⟨g2, hg2⟩ : ∃ g, w.heap.size = g := ⟨_, rfl⟩
  obtain ⟨g4, hg4⟩ : ∃ g, g2 + 1 = g := ⟨_, rfl⟩
  obtain ⟨g6, hg6⟩ : ∃ g, g4 + 1 = g := ⟨_, rfl⟩
  have T : Aside0 (RI w W0 g2 g4 g6 f none 0) := ⟨by rw [← hg6, ← hg4, ← hg2]; exact ⟨⟨X2.out, L0.out, Nat.le_refl _⟩, X4.out, X6.out, by omega⟩⟩
  have HG6 : Aside0 (g6 < W0.heap.size) := ⟨by have := HW0s.out; omega⟩
  have LW : Aside0 (w.heap.size ≤ W0.heap.size) := ⟨L0.out.size⟩
  rw [hW0, hg2, hg4, hg6]
  clear hW0 hg2 hg4 hg6 X2 X4 X6 L0 HW0s HB
  have z0 := T.out.t.own.c0
  have z1 := T.out.t.own.c1
  obtain ⟨x, hx⟩ : ∃ x, padB f = x := ⟨_, rfl⟩
  have HX := Aside0.mk hx
  clear hx
  go_upto_if 15 with (go_at_call 95; refine (mayPad_calls f x _ HD.out HX.out).mono ?_; rintro e w3 ⟨rfl, hb⟩; have T3 := Aside0.mk (T.out.below hb); clear hb)
  clear T z0 z1
  go_cut [1] from 16 to 39 (fun v wc => ∃ f1 p1, v = .string p1 ∧ Aside0 (RI w wc g2 g4 g6 f1 none 0) ∧ Aside0 (Jt t2 (fun t n => (((t == 2 || (t == 1 && has f.fl 32)) = true → 5 ≤ n) ∧ (t = 5 ∨ t = 8 ∨ t = 3 → 4 ≤ n) ∧ (t = 7 → 8 ≤ n) ∧ (t = 4 → n % 6 = 0))) f M f1 p1) ∧ Aside0 ((⟨M, 9 + (p.size : Int), 0, 0⟩ : Rd) = R))
  case first =>
    as_aux_lemma =>
    have hbig : ¬ (padB f = true ∧ (p.size : Int) - aheadI f < bt p 0) → Jt t2 (fun t n => (((t == 2 || (t == 1 && has f.fl 32)) = true → 5 ≤ n) ∧ (t = 5 ∨ t = 8 ∨ t = 3 → 4 ≤ n) ∧ (t = 7 → 8 ≤ n) ∧ (t = 4 → n % 6 = 0))) f M (if padB f = true then { f with pad := bt p 0 } else f) (if padB f = true then p.extract 1 ((p.size : Int) - bt p 0).toNat else p) ∧ (padB f = true → 1 ≤ p.size ∧ (bt p 0).toNat + 1 ≤ p.size) := by
      intro h5
      have h := sz2 f HD.out p.size p rfl HL.out h5 _ _ rfl rfl
      have e0 : (if padB f = true then { f with pad := bt p 0 } else f).ty = f.ty := by split <;> rfl
      have e1 : (if padB f = true then { f with pad := bt p 0 } else f).fl = f.fl := by split <;> rfl
      have e2 : (if padB f = true then { f with pad := bt p 0 } else f).ps = [] := by split <;> exact HPS0.out
      refine ⟨⟨e0, e1, e2, Nat.le_trans h.2.1 HP.out, HMA.out, ?_⟩, h.2.2⟩
      have hs := h.1
      exact ⟨fun q => hs.w (by rw [e0, e1]; exact q), fun q => hs.l (by rw [e0]; exact q), fun q => hs.g (by rw [e0]; exact q), fun q => hs.s (by rw [e0]; exact q)⟩
    have hx := HX.out
    cases x
    · have HJ := Aside0.mk (hbig (by rw [hx]; rintro ⟨q, _⟩; cases q)).1
      have HRM : Aside0 ((⟨M, 9 + (p.size : Int), 0, 0⟩ : Rd) = R) := ⟨by rw [← HR.out]; unfold rdRef; rw [if_neg (by rw [hx]; rintro ⟨q, _⟩; cases q), HMA.out]⟩
      rw [hx, if_neg (by decide), if_neg (by decide)] at HJ
      clear hbig hx
      go_wp2_with fail
      go_meet
      case rel => exact ⟨f, p, rfl, T3, HJ, HRM⟩
    · have n0 : 0 < p.size := by
        have h1 := aheadI_is f HD.out
        rw [hx, if_pos rfl] at h1
        have h2 := aheadR_nonneg f
        have h3 := HL.out
        unfold lenR at h3
        have hc : f.ty = 0 ∨ f.ty = 1 ∨ f.ty = 5 := by
          by_cases hc : f.ty = 0 ∨ f.ty = 1 ∨ f.ty = 5
          · exact hc
          · have := HD.out.pad0 (f := f) (by omega) (by omega) (by omega)
            rw [this] at hx
            cases hx
        rw [if_pos hc] at h3
        have := of_decide_eq_true h3
        omega
      have i0 : (0 : Int) < (p.size : Int) := by omega
      have bp := bt_range p 0
      obtain ⟨x0, hx0⟩ : ∃ u, bt p 0 = u := ⟨_, rfl⟩
      have ht0 : ((p[0]'n0).toNat : Int) = x0 := (bt_at p 0 n0).trans hx0
      rw [hx0] at bp
      have hwx : wrap64 x0 = x0 := by unfold wrap64; omega
      have y4 := T3.out.t.own.c4
      have yf4 := blk_frozen T3.out.t.own 4
      obtain ⟨a, ha⟩ : ∃ a, aheadI f = a := ⟨_, rfl⟩
      have HA := Aside0.mk ha
      have har := aheadI_ge f
      have haR := aheadR_nonneg f
      rw [ha] at har hbig
      rw [hx0, hx] at hbig
      have hwa : wrap64 ((p.size : Int) - a) = (p.size : Int) - a := by have := HP.out; unfold wrap64; omega
      have HBG := Aside0.mk hbig
      have HX0 := Aside0.mk hx0
      have HBP := Aside0.mk bp
      clear hbig hx hx0 bp ha har haR
      go_upto_region 4 with fail
      obtain ⟨W2, hW⟩ : ∃ W, w3.setCell ⟨g2, 4, none⟩ (.int .i64 x0) = W := ⟨_, rfl⟩
      have T2 : Aside0 (RI w W2 g2 g4 g6 { f with pad := x0 } none 0) := ⟨by rw [← hW]; exact T3.out.put4 x0⟩
      rw [hW]
      clear hW T3 y4 yf4 n0 i0 ht0 hwx
      refine start_ (n := 11) (S := fun w' => w'.cell? ⟨g2, 4, none⟩ = some (.int .i64 x0) ∧ w'.cell? ⟨g2, 0, none⟩ = some (.int .i64 f.ty) ∧ w'.cell? ⟨g2, 1, none⟩ = some (.int .i64 f.fl) ∧ RI w w' g2 g4 g6 { f with pad := x0 } none 0) (ds := []) #[false, false, false, false, false, false, false, false, false, false, false] (by kernel_rfl) rfl rfl ⟨(T2.out.below (below_drew (Below.refl _ _))).t.own.c4, (T2.out.below (below_drew (Below.refl _ _))).t.own.c0, (T2.out.below (below_drew (Below.refl _ _))).t.own.c1, (T2.out.below (below_drew (Below.refl _ _)))⟩ (fun hHeld => ?_)
      refine pure_ (i := 0) (N := some 20) (v := ?_) (a' := ?_) #[true, false, false, false, false, false, false, false, false, false, false] rfl rfl (by kernel_rfl) (fun _ _ _ h => h) (Or.inl ⟨by rfl, ?_⟩) ?_ ?_
      rotate_left
      · intro w'
        go_simp
        with_reducible rfl
      rotate_left
      · simp only [Act.put, List.setIfInBounds_toArray, List.set_cons_zero, List.set_cons_succ, i64_w, i32_w]
        rfl
      refine pure_ (i := 2) (N := some 22) (v := ?_) (a' := ?_) #[true, false, true, false, false, false, false, false, false, false, false] rfl rfl (by kernel_rfl) (fun _ _ _ h => h) (Or.inl ⟨by rfl, ?_⟩) ?_ ?_
      rotate_left
      · intro w'
        go_simp
        with_reducible rfl
      rotate_left
      · simp only [Act.put, List.setIfInBounds_toArray, List.set_cons_zero, List.set_cons_succ, i64_w, i32_w]
        rfl
      refine pure_ (i := 3) (N := some 23) (v := ?_) (a' := ?_) #[true, false, true, true, false, false, false, false, false, false, false] rfl rfl (by kernel_rfl) (fun _ _ _ h => h) (Or.inl ⟨by rfl, ?_⟩) ?_ ?_
      rotate_left
      · intro w'
        go_simp
        with_reducible rfl
      rotate_left
      · simp only [Act.put, List.setIfInBounds_toArray, List.set_cons_zero, List.set_cons_succ, i64_w, i32_w]
        rfl
      refine pure_ (i := 4) (N := some 24) (v := ?_) (a' := ?_) #[true, false, true, true, true, false, false, false, false, false, false] rfl rfl (by kernel_rfl) (fun _ _ _ h => h) (Or.inl ⟨by rfl, ?_⟩) ?_ ?_
      rotate_left
      · intro w'
        go_simp
        with_reducible rfl
      rotate_left
      · simp only [Act.put, List.setIfInBounds_toArray, List.set_cons_zero, List.set_cons_succ, i64_w, i32_w]
        rfl
      refine pure_ (i := 6) (N := some 26) (v := ?_) (a' := ?_) #[true, false, true, true, true, false, true, false, false, false, false] rfl rfl (by kernel_rfl) (fun _ _ _ h => h) (Or.inl ⟨by rfl, ?_⟩) ?_ ?_
      rotate_left
      · intro w'
        go_simp
        with_reducible rfl
      rotate_left
      · simp only [Act.put, List.setIfInBounds_toArray, List.set_cons_zero, List.set_cons_succ, i64_w, i32_w]
        rfl
      refine take_ (i := 1) (N := some 21) (v := ?_) (a' := ?_) #[true, true, true, true, true, false, true, false, false, false, false] rfl rfl (by kernel_rfl) (fun _ _ _ h => h) (Or.inl ⟨by rfl, ?_⟩) hHeld ?_ ?_
      rotate_left
      · rintro w' ⟨s0, s1, s2, s3⟩
        go_simp
        with_reducible rfl
      rotate_left
      · simp only [Act.put, List.setIfInBounds_toArray, List.set_cons_zero, List.set_cons_succ, i64_w, i32_w]
        rfl
      refine take_ (i := 5) (N := some 25) (v := ?_) (a' := ?_) #[true, true, true, true, true, true, true, false, false, false, false] rfl rfl (by kernel_rfl) (fun _ _ _ h => h) (Or.inl ⟨by rfl, ?_⟩) hHeld ?_ ?_
      rotate_left
      · rintro w' ⟨s0, s1, s2, s3⟩
        go_simp
        with_reducible rfl
      rotate_left
      · simp only [Act.put, List.setIfInBounds_toArray, List.set_cons_zero, List.set_cons_succ, i64_w, i32_w]
        rfl
      refine take_ (i := 7) (N := some 27) (v := ?_) (a' := ?_) #[true, true, true, true, true, true, true, true, false, false, false] rfl rfl (by kernel_rfl) (fun _ _ _ h => h) (Or.inl ⟨by rfl, ?_⟩) hHeld ?_ ?_
      rotate_left
      · rintro w' ⟨s0, s1, s2, s3⟩
        go_simp
        with_reducible rfl
      rotate_left
      · simp only [Act.put, List.setIfInBounds_toArray, List.set_cons_zero, List.set_cons_succ, i64_w, i32_w]
        rfl
      refine one_ (i := 8) (N := some 28) #[true, true, true, true, true, true, true, true, true, false, false] rfl rfl (by kernel_rfl) (by decide) (fun K hK => ?_)
      refine goes_ Tryd.func100 (by kernel_rfl) rfl #[.int .i64 f.ty, .int .i64 f.fl] (by rfl) rfl rfl (by simp only [List.map_toArray, List.map_cons, List.map_nil]; rfl) ?_
      with_reducible refine (aheadD_calls f a _ HD.out HA.out).mono ?_
      rintro e w4 ⟨rfl, hb⟩
      refine ⟨_, rfl, ?_⟩
      refine hK.out _ _ ⟨(hHeld.2.2.2.below hb).t.own.c4, (hHeld.2.2.2.below hb).t.own.c0, (hHeld.2.2.2.below hb).t.own.c1, (hHeld.2.2.2.below hb)⟩ (fun hHeld => ?_)
      clear hK K
      refine norm_ (a' := ?_) ?_ ?_
      rotate_left
      · show Act.put _ (some 28) _ = _
        simp only [Act.put, List.setIfInBounds_toArray, List.set_cons_zero, List.set_cons_succ, i64_w, i32_w]
        rfl
      refine pure_ (i := 9) (N := some 29) (v := ?_) (a' := ?_) #[true, true, true, true, true, true, true, true, true, true, false] rfl rfl (by kernel_rfl) (fun _ _ _ h => h) (Or.inl ⟨by rfl, ?_⟩) ?_ ?_
      rotate_left
      · intro w'
        go_simp
        with_reducible rfl
      rotate_left
      · simp only [Act.put, List.setIfInBounds_toArray, List.set_cons_zero, List.set_cons_succ, i64_w, i32_w]
        rfl
      refine pure_ (i := 10) (N := some 30) (v := ?_) (a' := ?_) #[true, true, true, true, true, true, true, true, true, true, true] rfl rfl (by kernel_rfl) (fun _ _ _ h => h) (Or.inl ⟨by rfl, ?_⟩) ?_ ?_
      rotate_left
      · intro w'
        go_simp
        with_reducible rfl
      rotate_left
      · simp only [Act.put, List.setIfInBounds_toArray, List.set_cons_zero, List.set_cons_succ, i64_w, i32_w]
        rfl
      refine done_ (by kernel_rfl) ?_
      have T4 := Aside0.mk hHeld.2.2.2
      clear hHeld
      go_upto_if 30 with fail
      by_cases h5 : (p.size : Int) - a < x0
      · have d5 : decide ((p.size : Int) - a < x0) = true := decide_eq_true h5
        rw [d5]
        have HE : Aside0 (R = Rd.bad 1) := ⟨by rw [← HR.out]; unfold rdRef; rw [if_pos ⟨HX.out, by rw [HA.out, HX0.out]; exact h5⟩]⟩
        clear h5
        go_wp2_with (first
          | (refine wpList_store_row rfl 24 _ _ rfl g4 (#[.int .i64 0, .int .i64 0, .int .i64 0, .string ⟨#[]⟩, .int .i64 0, .int .i64 0, .bool false, .int .i64 0, .int .i64 0, .int .i64 0, .slice none 0 0]) rfl rfl 24 _ T4.out.z4 (by kernel_rfl) (by kernel_rfl) (by kernel_rfl) ?_; obtain ⟨W8, e8, q4, qo, qb⟩ := row_store _ g4 (#[.int .i64 0, .int .i64 0, .int .i64 0, .string ⟨#[]⟩, .int .i64 0, .int .i64 0, .bool false, .int .i64 0, .int .i64 0, .int .i64 0, .slice none 0 0]) 24 _ T4.out.z4; rw [e8]; have Q4 := Aside0.mk q4; have Q6 := Aside0.mk ((qo _ (by have := T4.out.ne; omega)).trans T4.out.z6); have QO := Aside0.mk qo; have QL := Aside0.mk (qb _ _ T4.out.t.low (by have h1 := T4.out.t.ge; have h2 := T4.out.ne; omega)); have QN := Aside0.mk T4.out.ne; have QG := Aside0.mk T4.out.t.ge; clear q4 qo qb e8)
          | (refine wpList_store_row rfl 35 _ _ rfl g6 #[.int .i64 1, .int .i64 0] rfl rfl 35 _ Q6.out (by kernel_rfl) (by kernel_rfl) (by kernel_rfl) ?_; obtain ⟨W9, e9, p6, po, pb⟩ := row_store _ g6 #[.int .i64 1, .int .i64 0] 35 _ Q6.out; rw [e9]; have R6 := Aside0.mk p6; have R4 := Aside0.mk ((po _ (by have := QN.out; omega)).trans Q4.out); have PO := Aside0.mk po; have RL := Aside0.mk (pb _ _ QL.out (by have h1 := QN.out; have h2 := QG.out; omega)); clear p6 po pb e9))
        exact bodyPost_ret (res66 _ _ g4 g6 Fr.zero none 0 0 1 0 rfl rfl rfl R4.out R6.out) rfl (by rw [HE.out]; exact RdPost.zero 0 1 0 rfl RL.out)
      · have d5 : decide ((p.size : Int) - a < x0) = false := decide_eq_false h5
        rw [d5]
        have hj := HBG.out (by rintro ⟨_, q⟩; exact h5 q)
        have HRM : Aside0 ((⟨M, 9 + (p.size : Int), 0, 0⟩ : Rd) = R) := ⟨by rw [← HR.out]; unfold rdRef; rw [if_neg (by rintro ⟨_, q⟩; rw [HA.out, HX0.out] at q; exact h5 q), HMA.out]⟩
        obtain ⟨q, hq⟩ : ∃ q : Nat, (p.size : Int) - x0 = q := ⟨((p.size : Int) - x0).toNat, by have h1 := hj.2 rfl; have h2 := HBP.out; omega⟩
        have hwq : wrap64 ((p.size : Int) - x0) = (q : Int) := by have := HP.out; have h2 := HBP.out; unfold wrap64; omega
        have i1 : (1 : Int) ≤ (q : Int) := by have h1 := hj.2 rfl; have h2 := HBP.out; omega
        have iq : (q : Int) ≤ (p.size : Int) := by have h2 := HBP.out; omega
        have HJ := Aside0.mk hj.1
        rw [if_pos rfl, if_pos rfl, hq, Int.toNat_natCast] at HJ
        have c4 := T4.out.t.own.c4
        clear hj h5 hq
        go_wp2_with fail
        go_meet
        case rel => exact ⟨_, _, rfl, T4, HJ, HRM⟩
  case rest =>
    clear T3
    obtain ⟨f1, p1, rfl, T, HJ, HRM⟩ := hcut
    obtain ⟨x, hx⟩ : ∃ x, (f1.ty == 2 || (f1.ty == 1 && has f1.fl 32)) = x := ⟨_, rfl⟩
    have HXB := Aside0.mk hx
    clear hx
    go_upto_if 41 with (first
      | (refine wpList_load_row rfl 24 _ rfl g2 rfl 24 (f1.cells none 0) (0, 0) _ T.out.t.own Tryd.underlying24 (by rfl) (by kernel_rfl) ?_)
      | (go_at_call 96; refine (weighed_calls f1 none 0 x _ (HD.out.of HJ.out.ty HJ.out.fl).fl HXB.out).mono ?_; rintro e w4 ⟨rfl, hb⟩; have T3 := Aside0.mk (T.out.below hb); clear hb))
    clear T
    go_cut [1] from 42 to 57 (fun v wc => ∃ f1 p1, v = .string p1 ∧ Aside0 (RI w wc g2 g4 g6 f1 none 0) ∧ Aside0 (Jt t3 P3 f M f1 p1))
    case first =>
      as_aux_lemma =>
      have hx := HXB.out
      cases x
      · have HJ3 : Aside0 (Jt t3 P3 f M f1 p1) := ⟨by
          have h := HJ.out
          have e : t2 f1 p1 = t3 f1 p1 := by unfold t2; rw [hx, if_neg (by decide)]
          exact ⟨h.ty, h.fl, h.ps, h.le, by rw [← e]; exact h.res, ⟨h.sz.2.1, h.sz.2.2.1, h.sz.2.2.2⟩⟩⟩
        clear hx
        go_wp2_with fail
        go_meet
        case rel => exact ⟨f1, p1, rfl, T3, HJ3⟩
      · have h5 : 5 ≤ p1.size := by
          have h := HJ.out
          exact h.sz.1 (by rw [← h.ty, ← h.fl]; exact hx)
        have HJ3 : Aside0 (Jt t3 P3 f M (wtF f1 p1) (p1.extract 5 p1.size)) := ⟨by
          have h := HJ.out
          have e : t2 f1 p1 = t3 (wtF f1 p1) (p1.extract 5 p1.size) := by unfold t2; rw [hx, if_pos rfl]
          have q : f.ty = 2 ∨ f.ty = 1 := by
            rw [h.ty] at hx
            simp only [Bool.or_eq_true, Bool.and_eq_true, beq_iff_eq] at hx
            rcases hx with r | r
            · exact .inl r
            · exact .inr r.1
          exact ⟨h.ty, h.fl, h.ps, by have := h.le; rw [ByteArray.size_extract]; omega, by rw [← e]; exact h.res, ⟨fun _ => by omega, fun _ => by omega, fun _ => by omega⟩⟩⟩
        have n4 : 4 < p1.size := by omega
        have i4 : (4 : Int) < (p1.size : Int) := by omega
        have j4 : (4 : Int) ≤ (p1.size : Int) := by omega
        have j5 : (5 : Int) ≤ (p1.size : Int) := by omega
        have HTB := Aside0.mk (top_bit p1 (by omega))
        obtain ⟨u, hu⟩ : ∃ u, bt p1 4 = u := ⟨_, rfl⟩
        have bu := bt_range p1 4
        rw [hu] at bu
        have ht4 : ((p1[4]'n4).toNat : Int) = u := (bt_at p1 4 n4).trans hu
        have hwu : wrap64 u = u := by unfold wrap64; omega
        have hwu1 : wrap64 (u + 1) = u + 1 := by unfold wrap64; omega
        have HE4 : Aside0 ((p1.extract 0 4).size ≤ 4) := ⟨ext4 p1 0⟩
        obtain ⟨y, hy⟩ : ∃ y, num (p1.extract 0 4) = y := ⟨_, rfl⟩
        obtain ⟨d, hd⟩ : ∃ d, num (p1.extract 0 4) % 2147483648 = d := ⟨_, rfl⟩
        obtain ⟨b, hb⟩ : ∃ b, decide (2147483647 < y) = b := ⟨_, rfl⟩
        have HW : Aside0 (wtF f1 p1 = { f1 with dep := d, ex := b, wt := u + 1 }) := ⟨by unfold wtF; rw [hd, hu, ← HTB.out, hy, hb]⟩
        have HY := Aside0.mk hy
        have HD' := Aside0.mk hd
        clear hx h5 hu bu hy hd
        have y5 := T3.out.t.own.c5
        have yf5 := blk_frozen T3.out.t.own 5
        go_upto_region 9 with (go_at_call 62; refine (idR_below (p1.extract 0 4) d _ HE4.out HD'.out).mono ?_; rintro e w5 ⟨rfl, hb⟩; have T5 := Aside0.mk (T3.out.below hb); have y5 := T5.out.t.own.c5; have yf5 := blk_frozen T5.out.t.own 5; clear hb)
        obtain ⟨W5, hW⟩ : ∃ W, w5.setCell ⟨g2, 5, none⟩ (.int .i64 d) = W := ⟨_, rfl⟩
        have T6 : Aside0 (RI w W5 g2 g4 g6 { f1 with dep := d } none 0) := ⟨by rw [← hW]; exact T5.out.put5 d⟩
        rw [hW]
        clear hW T5 T3 y5 yf5
        go_upto_region 10 with (go_at_call 61; refine (getR_below (p1.extract 0 4) y _ HE4.out HY.out).mono ?_; rintro e w6 ⟨rfl, hb⟩; have T7 := Aside0.mk (T6.out.below hb); have y6 := T7.out.t.own.c6; have yf6 := blk_frozen T7.out.t.own 6; clear hb)
        obtain ⟨W6, hW⟩ : ∃ W, w6.setCell ⟨g2, 6, none⟩ (.bool b) = W := ⟨_, rfl⟩
        have T8 : Aside0 (RI w W6 g2 g4 g6 { f1 with dep := d, ex := b } none 0) := ⟨by rw [← hW]; exact T7.out.put6 b⟩
        rw [hW]
        clear hW T7 T6 y6 yf6
        have y7 := T8.out.t.own.c7
        have yf7 := blk_frozen T8.out.t.own 7
        go_upto_region 11 with fail
        obtain ⟨W7, hW⟩ : ∃ W, W6.setCell ⟨g2, 7, none⟩ (.int .i64 (u + 1)) = W := ⟨_, rfl⟩
        have T9 : Aside0 (RI w W7 g2 g4 g6 (wtF f1 p1) none 0) := ⟨by rw [← hW, HW.out]; exact T8.out.put7 (u + 1)⟩
        rw [hW]
        clear hW T8 y7 yf7
        go_wp2_with fail
        go_meet
        case rel => exact ⟨_, _, rfl, T9, HJ3⟩
    case rest =>
      clear T3 HJ
      obtain ⟨f2, p2, rfl, T, HJ⟩ := hcut
      have z0 := T.out.t.own.c0
      obtain ⟨x, hx⟩ : ∃ x, ((f2.ty == 5) || (f2.ty == 7) || (f2.ty == 8)) = x := ⟨_, rfl⟩
      have HXC := Aside0.mk hx
      go_upto_region 12 with fail
      go_cut [70] from 58 to 70 (fun v wc => v = .bool x ∧ Aside0 (RI w wc g2 g4 g6 f2 none 0))
      case first =>
        as_aux_lemma =>
        rcases bcase3 (f2.ty == 5) (f2.ty == 7) (f2.ty == 8) with q0 | ⟨q0, q1⟩ | ⟨q0, q1, q2⟩ | ⟨q0, q1, q2⟩
        all_goals
          go_wp2_with fail
          go_meet
          case rel => exact ⟨by rw [← HXC.out]; simp [*], T⟩
      case rest =>
        clear T z0 hx
        obtain ⟨rfl, T⟩ := hcut
        go_upto_if 70 with fail
        go_cut [1] from 71 to 76 (fun v wc => ∃ f1 p1, v = .string p1 ∧ Aside0 (RI w wc g2 g4 g6 f1 none 0) ∧ Aside0 (Jt t4 P4 f M f1 p1))
        case first =>
          as_aux_lemma =>
          have hx := HXC.out
          cases x
          · have hc : ¬ (f2.ty = 5 ∨ f2.ty = 7 ∨ f2.ty = 8) := by
              intro q
              simp only [Bool.or_eq_false_iff, beq_eq_false_iff_ne] at hx
              omega
            have HJ3 : Aside0 (Jt t4 P4 f M f2 p2) := ⟨by
              have h := HJ.out
              have e : t3 f2 p2 = t4 f2 p2 := by unfold t3; rw [if_neg hc]
              have ht := h.ty
              exact ⟨h.ty, h.fl, h.ps, h.le, by rw [← e]; exact h.res, by have hs := h.sz; unfold P3 at hs; unfold P4; exact ⟨fun q => by omega, hs.2.2⟩⟩⟩
            clear hx hc
            go_wp2_with fail
            go_meet
            case rel => exact ⟨f2, p2, rfl, T, HJ3⟩
          · have hc : f2.ty = 5 ∨ f2.ty = 7 ∨ f2.ty = 8 := by
              simp only [Bool.or_eq_true, beq_iff_eq] at hx
              omega
            have h4 : 4 ≤ p2.size := by
              have h := HJ.out
              have ht := h.ty
              have hs := h.sz
              unfold P3 at hs
              omega
            have HE4 : Aside0 ((p2.extract 0 4).size ≤ 4) := ⟨ext4 p2 0⟩
            have j4 : (4 : Int) ≤ (p2.size : Int) := by omega
            obtain ⟨y, hy⟩ : ∃ y, num (p2.extract 0 4) % 2147483648 = y := ⟨_, rfl⟩
            have HY := Aside0.mk hy
            have HJ3 : Aside0 (Jt t4 P4 f M { f2 with la := y } (p2.extract 4 p2.size)) := ⟨by
              have h := HJ.out
              have e : t3 f2 p2 = t4 { f2 with la := y } (p2.extract 4 p2.size) := by unfold t3; rw [if_pos hc, ← hy]
              have ht := h.ty
              have hs := h.sz
              unfold P3 at hs
              have hz : (p2.extract 4 p2.size).size = p2.size - 4 := by rw [ByteArray.size_extract]; omega
              exact ⟨h.ty, h.fl, h.ps, by have := h.le; omega, by rw [← e]; exact h.res, by unfold P4; rw [hz]; exact ⟨fun q => by omega, fun q => by omega⟩⟩⟩
            clear hx hc h4 hy
            go_upto_region 14 with (go_at_call 62; refine (idR_below (p2.extract 0 4) y _ HE4.out HY.out).mono ?_; rintro e w5 ⟨rfl, hb⟩; have T5 := Aside0.mk (T.out.below hb); have y5 := T5.out.t.own.c9; have yf5 := blk_frozen T5.out.t.own 9; clear hb)
            obtain ⟨W5, hW⟩ : ∃ W, w5.setCell ⟨g2, 9, none⟩ (.int .i64 y) = W := ⟨_, rfl⟩
            have T6 : Aside0 (RI w W5 g2 g4 g6 { f2 with la := y } none 0) := ⟨by rw [← hW]; exact T5.out.put9 y⟩
            rw [hW]
            clear hW T5 T y5 yf5
            go_wp2_with fail
            go_meet
            case rel => exact ⟨_, _, rfl, T6, HJ3⟩
        case rest =>
          clear T HJ
          obtain ⟨f3, p3, rfl, T3, HJ3⟩ := hcut
          obtain ⟨f2, hf2⟩ : ∃ g, f3 = g := ⟨_, rfl⟩
          obtain ⟨p2, hp2⟩ : ∃ g, p3 = g := ⟨_, rfl⟩
          have T : Aside0 (RI w wc g2 g4 g6 f2 none 0) := ⟨by rw [← hf2]; exact T3.out⟩
          have HJ : Aside0 (Jt t4 P4 f M f2 p2) := ⟨by rw [← hf2, ← hp2]; exact HJ3.out⟩
          rw [hp2]
          clear T3 HJ3 hf2 hp2
          have z0 := T.out.t.own.c0
          obtain ⟨x, hx⟩ : ∃ x, ((f2.ty == 3) || (f2.ty == 7)) = x := ⟨_, rfl⟩
          have HXC := Aside0.mk hx
          go_upto_region 15 with fail
          go_cut [84] from 77 to 84 (fun v wc => v = .bool x ∧ Aside0 (RI w wc g2 g4 g6 f2 none 0))
          case first =>
            as_aux_lemma =>
            rcases bcase2 (f2.ty == 3) (f2.ty == 7) with q0 | ⟨q0, q1⟩ | ⟨q0, q1⟩
            all_goals
              go_wp2_with fail
              go_meet
              case rel => exact ⟨by rw [← HXC.out]; simp [*], T⟩
          case rest =>
            clear T z0 hx
            obtain ⟨rfl, T⟩ := hcut
            go_upto_if 84 with fail
            go_cut [1] from 85 to 90 (fun v wc => ∃ f1 p1, v = .string p1 ∧ Aside0 (RI w wc g2 g4 g6 f1 none 0) ∧ Aside0 (Jt t5 P5 f M f1 p1))
            case first =>
              as_aux_lemma =>
              have hx := HXC.out
              cases x
              · have hc : ¬ (f2.ty = 3 ∨ f2.ty = 7) := by
                  intro q
                  simp only [Bool.or_eq_false_iff, beq_eq_false_iff_ne] at hx
                  omega
                have HJ3 : Aside0 (Jt t5 P5 f M f2 p2) := ⟨by
                  have h := HJ.out
                  have e : t4 f2 p2 = t5 f2 p2 := by unfold t4; rw [if_neg hc]
                  have ht := h.ty
                  exact ⟨h.ty, h.fl, h.ps, h.le, by rw [← e]; exact h.res, h.sz.2⟩⟩
                clear hx hc
                go_wp2_with fail
                go_meet
                case rel => exact ⟨f2, p2, rfl, T, HJ3⟩
              · have hc : f2.ty = 3 ∨ f2.ty = 7 := by
                  simp only [Bool.or_eq_true, beq_iff_eq] at hx
                  omega
                have h4 : 4 ≤ p2.size := by
                  have h := HJ.out
                  have ht := h.ty
                  have hs := h.sz
                  unfold P4 at hs
                  omega
                have HE4 : Aside0 ((p2.extract 0 4).size ≤ 4) := ⟨ext4 p2 0⟩
                have j4 : (4 : Int) ≤ (p2.size : Int) := by omega
                obtain ⟨y, hy⟩ : ∃ y, num (p2.extract 0 4) = y := ⟨_, rfl⟩
                have HY := Aside0.mk hy
                have HJ3 : Aside0 (Jt t5 P5 f M { f2 with co := y } (p2.extract 4 p2.size)) := ⟨by
                  have h := HJ.out
                  have e : t4 f2 p2 = t5 { f2 with co := y } (p2.extract 4 p2.size) := by unfold t4; rw [if_pos hc, ← hy]
                  have ht := h.ty
                  have hs := h.sz
                  unfold P4 at hs
                  have hz : (p2.extract 4 p2.size).size = p2.size - 4 := by rw [ByteArray.size_extract]; omega
                  exact ⟨h.ty, h.fl, h.ps, by have := h.le; omega, by rw [← e]; exact h.res, by unfold P5; rw [hz]; exact fun q => by omega⟩⟩
                clear hx hc h4 hy
                go_upto_region 17 with (go_at_call 61; refine (getR_below (p2.extract 0 4) y _ HE4.out HY.out).mono ?_; rintro e w5 ⟨rfl, hb⟩; have T5 := Aside0.mk (T.out.below hb); have y5 := T5.out.t.own.c8; have yf5 := blk_frozen T5.out.t.own 8; clear hb)
                obtain ⟨W5, hW⟩ : ∃ W, w5.setCell ⟨g2, 8, none⟩ (.int .i64 y) = W := ⟨_, rfl⟩
                have T6 : Aside0 (RI w W5 g2 g4 g6 { f2 with co := y } none 0) := ⟨by rw [← hW]; exact T5.out.put8 y⟩
                rw [hW]
                clear hW T5 T y5 yf5
                go_wp2_with fail
                go_meet
                case rel => exact ⟨_, _, rfl, T6, HJ3⟩
            case rest =>
              clear T HJ
              obtain ⟨f3, p3, rfl, T3, HJ3⟩ := hcut
              obtain ⟨f2, hf2⟩ : ∃ g, f3 = g := ⟨_, rfl⟩
              obtain ⟨p2, hp2⟩ : ∃ g, p3 = g := ⟨_, rfl⟩
              have T : Aside0 (RI w wc g2 g4 g6 f2 none 0) := ⟨by rw [← hf2]; exact T3.out⟩
              have HJ : Aside0 (Jt t5 P5 f M f2 p2) := ⟨by rw [← hf2, ← hp2]; exact HJ3.out⟩
              rw [hp2]
              clear T3 HJ3 hf2 hp2
              by_cases h4 : f2.ty = 4
              · have b4 : (f2.ty == 4) = true := beq_iff_eq.mpr h4
                obtain ⟨n, hn⟩ : ∃ n, p2.size = 6 * n := ⟨p2.size / 6, by have h := HJ.out; have ht := h.ty; have hs := h.sz; unfold P5 at hs; omega⟩
                have HN := Aside0.mk hn
                have HEM : Aside0 (({ f2 with ps := pars n p2.data.toList, da := ByteArray.empty } : Fr) = M) := ⟨by
                  have h := HJ.out.res
                  unfold t5 at h
                  rw [if_pos h4, show p2.size / 6 = n by omega] at h
                  exact h⟩
                have HRP0 : Aside0 (RP w wc g2 g4 g6 { f2 with ps := [] } (.slice none 0 0) none 0) := ⟨by
                  have e : ({ f2 with ps := [] } : Fr) = f2 := by
                    have h := HJ.out.ps
                    cases f2
                    simp only at h
                    rw [h]
                  rw [e]
                  exact ⟨T.out, by rw [HJ.out.ps]; rfl, by rw [HJ.out.ps]; exact Kd.R_nil _ _ _ _ _⟩⟩
                have H65 := Aside0.mk HJ.out.le
                clear T HJ h4 hn
                go_wp2_with fail
                go_loopw [1] (fun v w' => ∃ (m : Nat) (q : ByteArray) (ps : List S32) (A : Option Addr) (c : Nat), v = .string q ∧ Aside0 (q.size = 6 * m) ∧ Aside0 (ps.length + m = n) ∧ Aside0 (ps ++ pars m q.data.toList = pars n p2.data.toList) ∧ Aside0 (RP w w' g2 g4 g6 { f2 with ps := ps } (.slice A ps.length c) A c)) (fun v _ => match v with | .string q => q.size | _ => 0)
                case atStart => exact ⟨n, p2, [], none, 0, rfl, HN, ⟨by simp⟩, ⟨rfl⟩, HRP0⟩
                case round =>
                  obtain ⟨m, q, ps, A, c, rfl, HQ, HL2, HE, PK⟩ := hrel
                  have z0 := PK.out.inv.t.own.c0
                  cases m with
                  | zero =>
                    have hz : decide ((0 : Int) < (q.size : Int)) = false := decide_eq_false (by have := HQ.out; omega)
                    have hz2 : q.size = 0 := by have := HQ.out; omega
                    have hz3 : decide (0 < q.size) = false := decide_eq_false (by omega)
                    have HMM : Aside0 (({ f2 with ps := ps, da := q } : Fr) = M) := ⟨by
                      have e := HE.out
                      rw [show pars 0 q.data.toList = [] from rfl, List.append_nil] at e
                      rw [← HEM.out, e, ext_zero q hz2]⟩
                    have T := Aside0.mk PK.out.inv
                    have HRW := Aside0.mk PK.out.row
                    clear PK
                    have y3 := T.out.t.own.c3
                    have yf3 := blk_frozen T.out.t.own 3
                    go_upto_region 22 with fail
                    clear y3 yf3
                    obtain ⟨W7, hW⟩ : ∃ W, wr.setCell ⟨g2, 3, none⟩ (.string q) = W := ⟨_, rfl⟩
                    have T7 : Aside0 (RI w W7 g2 g4 g6 M A c) := ⟨by rw [← hW, ← HMM.out]; exact T.out.put3 q⟩
                    have HRV : Aside0 (Kd.R k32 32 W7 w.heap.size (Off g2 g4 g6) (.slice A M.ps.length c) M.ps) := ⟨by rw [← hW, ← HMM.out]; exact Kd.R_far (HRW.out) (p := ⟨g2, 3, none⟩) (fun _ h => h.1) _⟩
                    rw [hW]
                    clear hW T
                    go_wp2_with (first
                      | (refine wpList_load_row rfl 24 _ rfl g2 rfl 24 (M.cells A c) (0, 0) _ T7.out.t.own Tryd.underlying24 (by rfl) (by kernel_rfl) ?_)
                      | (refine wpList_store_row rfl 24 _ _ rfl g4 (M.cells A c) rfl rfl 24 _ T7.out.z4 (by kernel_rfl) (by kernel_rfl) (by kernel_rfl) ?_; obtain ⟨W8, e8, q4, qo, qb⟩ := row_store _ g4 (M.cells A c) 24 _ T7.out.z4; rw [e8]; have Q4 := Aside0.mk q4; have Q6 := Aside0.mk ((qo _ (by have := T7.out.ne; omega)).trans T7.out.z6); have QO := Aside0.mk qo; have QL := Aside0.mk (qb _ _ T7.out.t.low (by have h1 := T7.out.t.ge; have h2 := T7.out.ne; omega)); have QN := Aside0.mk T7.out.ne; have QG := Aside0.mk T7.out.t.ge; clear q4 qo qb e8)
                      | (refine wpList_store_row rfl 35 _ _ rfl g6 #[.int .i64 0, .int .i64 0] rfl rfl 35 _ Q6.out (by kernel_rfl) (by kernel_rfl) (by kernel_rfl) ?_; obtain ⟨W9, e9, p6, po, pb⟩ := row_store _ g6 #[.int .i64 0, .int .i64 0] 35 _ Q6.out; rw [e9]; have R6 := Aside0.mk p6; have R4 := Aside0.mk ((po _ (by have := QN.out; omega)).trans Q4.out); have PO := Aside0.mk po; have RL := Aside0.mk (pb _ _ QL.out (by have h1 := QN.out; have h2 := QG.out; omega)); clear p6 po pb e9))
                    exact bodyPost_ret (res66 _ _ g4 g6 M A c (9 + (p.size : Int)) 0 0 rfl rfl rfl R4.out R6.out) rfl (by rw [← HRM.out]; exact rd_ok rfl HRV.out (fun k hk => (PO.out k hk.2.2).trans (QO.out k hk.2.1)) RL.out)
                  | succ m =>
                    have hq := HQ.out
                    have hz : decide ((0 : Int) < (q.size : Int)) = true := decide_eq_true (by omega)
                    have hz3 : decide (0 < q.size) = true := decide_eq_true (by omega)
                    have b2 : (2 : Int) ≤ (q.size : Int) := by omega
                    have b6 : (6 : Int) ≤ (q.size : Int) := by omega
                    have HS2 : Aside0 ((q.extract 0 2).size ≤ 4) := ⟨by simp; omega⟩
                    have HS4 : Aside0 ((q.extract 2 6).size ≤ 4) := ⟨ext4 q 2⟩
                    have HPS : Aside0 ((ps.length + 1) * 16 ≤ 140737488355328) := ⟨by have h1 := HL2.out; have h2 := HN.out; have h3 := H65.out; omega⟩
                    obtain ⟨x, hx⟩ : ∃ x, num (q.extract 0 2) = x := ⟨_, rfl⟩
                    obtain ⟨y, hy⟩ : ∃ x, num (q.extract 2 6) = x := ⟨_, rfl⟩
                    have HX := Aside0.mk hx
                    have HY := Aside0.mk hy
                    have hst : pars (m + 1) q.data.toList = ⟨x, y⟩ :: pars m (q.extract 6 q.size).data.toList := by
                      rw [← hx, ← hy, num_extract, num_extract, list_extract]
                      rfl
                    have HST := Aside0.mk hst
                    have HQ2 : Aside0 ((q.extract 6 q.size).size = 6 * m) := ⟨by simp; omega⟩
                    obtain ⟨v, hv⟩ : ∃ v, Value.slice A ps.length c = v := ⟨_, rfl⟩
                    rw [hv] at PK
                    have HV := Aside0.mk hv
                    clear hx hy hst hq hv
                    go_upto_region 19 with fail
                    clear z0 hz hz3
                    have c0 : wr.drew.cell? ⟨g2, 10, none⟩ = some v := by rw [PK.out.val]; exact PK.out.inv.t.own.c10
                    have c1 : wr.drew.frozen? ⟨g2, 10, none⟩ = false := blk_frozen PK.out.inv.t.own 10
                    refine start_ (n := 13) (S := fun w' => w'.cell? ⟨g2, 10, none⟩ = some v ∧ w'.frozen? ⟨g2, 10, none⟩ = false) (ds := [12]) #[false, false, false, false, false, false, false, false, false, false, false, false, false] (by kernel_rfl) rfl rfl ⟨c0, c1⟩ (fun hHeld => ?_)
                    refine pure_ (i := 0) (N := some 99) (v := ?_) (a' := ?_) #[true, false, false, false, false, false, false, false, false, false, false, false, false] rfl rfl (by kernel_rfl) (fun _ _ _ h => h) (Or.inl ⟨by rfl, ?_⟩) ?_ ?_
                    rotate_left
                    · intro w'
                      go_simp
                      with_reducible rfl
                    rotate_left
                    · simp only [Act.put, List.setIfInBounds_toArray, List.set_cons_zero, List.set_cons_succ, i64_w, i32_w]
                      rfl
                    refine pure_ (i := 2) (N := some 101) (v := ?_) (a' := ?_) #[true, false, true, false, false, false, false, false, false, false, false, false, false] rfl rfl (by kernel_rfl) (fun _ _ _ h => h) (Or.inl ⟨by rfl, ?_⟩) ?_ ?_
                    rotate_left
                    · intro w'
                      go_simp
                      with_reducible rfl
                    rotate_left
                    · simp only [Act.put, List.setIfInBounds_toArray, List.set_cons_zero, List.set_cons_succ, i64_w, i32_w]
                      rfl
                    refine pure_ (i := 3) (N := some 102) (v := ?_) (a' := ?_) #[true, false, true, true, false, false, false, false, false, false, false, false, false] rfl rfl (by kernel_rfl) (fun _ _ _ h => h) (Or.inl ⟨by rfl, ?_⟩) ?_ ?_
                    rotate_left
                    · intro w'
                      go_simp
                      with_reducible rfl
                    rotate_left
                    · simp only [Act.put, List.setIfInBounds_toArray, List.set_cons_zero, List.set_cons_succ, i64_w, i32_w]
                      rfl
                    refine pure_ (i := 5) (N := some 104) (v := ?_) (a' := ?_) #[true, false, true, true, false, true, false, false, false, false, false, false, false] rfl rfl (by kernel_rfl) (fun _ _ _ h => h) (Or.inl ⟨by rfl, ?_⟩) ?_ ?_
                    rotate_left
                    · intro w'
                      go_simp
                      with_reducible rfl
                    rotate_left
                    · simp only [Act.put, List.setIfInBounds_toArray, List.set_cons_zero, List.set_cons_succ, i64_w, i32_w]
                      rfl
                    refine pure_ (i := 6) (N := some 105) (v := ?_) (a' := ?_) #[true, false, true, true, false, true, true, false, false, false, false, false, false] rfl rfl (by kernel_rfl) (fun _ _ _ h => h) (Or.inl ⟨by rfl, ?_⟩) ?_ ?_
                    rotate_left
                    · intro w'
                      go_simp
                      with_reducible rfl
                    rotate_left
                    · simp only [Act.put, List.setIfInBounds_toArray, List.set_cons_zero, List.set_cons_succ, i64_w, i32_w]
                      rfl
                    refine take_ (i := 1) (N := some 100) (v := ?_) (a' := ?_) #[true, true, true, true, false, true, true, false, false, false, false, false, false] rfl rfl (by kernel_rfl) (fun _ _ _ h => h) (Or.inl ⟨by rfl, ?_⟩) hHeld ?_ ?_
                    rotate_left
                    · rintro w' ⟨s0, s1⟩
                      go_simp
                      with_reducible rfl
                    rotate_left
                    · simp only [Act.put, List.setIfInBounds_toArray, List.set_cons_zero, List.set_cons_succ, i64_w, i32_w]
                      rfl
                    refine one_ (i := 4) (N := some 103) #[true, true, true, true, true, true, true, false, false, false, false, false, false] rfl rfl (by kernel_rfl) (by decide) (fun K hK => ?_)
                    refine goes_ Tryd.func61 (by kernel_rfl) rfl #[.string (q.extract 0 2)] (by rfl) rfl rfl (by simp only [List.map_toArray, List.map_cons, List.map_nil]; rfl) ?_
                    with_reducible refine (getR_below (q.extract 0 2) x _ HS2.out HX.out).mono ?_
                    rintro e w3 ⟨rfl, hb⟩
                    refine ⟨_, rfl, ?_⟩
                    have P3 := Aside0.mk ((PK.out.below (below_drew (Below.refl _ _))).below hb)
                    refine hK.out _ _ ⟨(hb.cell (World.block_lt_of_cell? _ _ hHeld.1)).trans hHeld.1, (hb.frozen (p := ⟨g2, 10, none⟩) (World.block_lt_of_cell? _ _ hHeld.1)).trans hHeld.2⟩ (fun hHeld => ?_)
                    clear hK K
                    refine norm_ (a' := ?_) ?_ ?_
                    rotate_left
                    · show Act.put _ (some 103) _ = _
                      simp only [Act.put, List.setIfInBounds_toArray, List.set_cons_zero, List.set_cons_succ, i64_w, i32_w]
                      rfl
                    refine one_ (i := 7) (N := some 106) #[true, true, true, true, true, true, true, true, false, false, false, false, false] rfl rfl (by kernel_rfl) (by decide) (fun K hK => ?_)
                    refine goes_ Tryd.func61 (by kernel_rfl) rfl #[.string (q.extract 2 6)] (by rfl) rfl rfl (by simp only [List.map_toArray, List.map_cons, List.map_nil]; rfl) ?_
                    with_reducible refine (getR_below (q.extract 2 6) y _ HS4.out HY.out).mono ?_
                    rintro e w4 ⟨rfl, hb⟩
                    refine ⟨_, rfl, ?_⟩
                    have P4 := Aside0.mk (P3.out.below hb)
                    refine hK.out _ _ ⟨(hb.cell (World.block_lt_of_cell? _ _ hHeld.1)).trans hHeld.1, (hb.frozen (p := ⟨g2, 10, none⟩) (World.block_lt_of_cell? _ _ hHeld.1)).trans hHeld.2⟩ (fun hHeld => ?_)
                    clear hK K
                    refine norm_ (a' := ?_) ?_ ?_
                    rotate_left
                    · show Act.put _ (some 106) _ = _
                      simp only [Act.put, List.setIfInBounds_toArray, List.set_cons_zero, List.set_cons_succ, i64_w, i32_w]
                      rfl
                    refine pure_ (i := 8) (N := some 107) (v := ?_) (a' := ?_) #[true, true, true, true, true, true, true, true, true, false, false, false, false] rfl rfl (by kernel_rfl) (fun _ _ _ h => h) (Or.inl ⟨by rfl, ?_⟩) ?_ ?_
                    rotate_left
                    · intro w'
                      go_simp
                      with_reducible rfl
                    rotate_left
                    · simp only [Act.put, List.setIfInBounds_toArray, List.set_cons_zero, List.set_cons_succ, i64_w, i32_w]
                      rfl
                    refine one_ (i := 9) (N := some 108) #[true, true, true, true, true, true, true, true, true, true, false, false, false] rfl rfl (by kernel_rfl) (by decide) (fun K hK => ?_)
                    refine value_ (w1 := ?_) (v := ?_) (by rfl) rfl ?_ ?_
                    rotate_left 2
                    · go_simp
                      constructor
                      · rfl
                      · rfl
                    refine hK.out _ _ ⟨((below_alloc (Below.refl _ _) _).cell (World.block_lt_of_cell? _ _ hHeld.1)).trans hHeld.1, ((below_alloc (Below.refl _ _) _).frozen (p := ⟨g2, 10, none⟩) (World.block_lt_of_cell? _ _ hHeld.1)).trans hHeld.2⟩ (fun hHeld => ?_)
                    clear hK K
                    refine norm_ (a' := ?_) ?_ ?_
                    rotate_left
                    · show Act.put _ (some 108) _ = _
                      simp only [Act.put, List.setIfInBounds_toArray, List.set_cons_zero, List.set_cons_succ, i64_w, i32_w]
                      rfl
                    refine one_ (i := 10) (N := some 109) #[true, true, true, true, true, true, true, true, true, true, true, false, false] rfl rfl (by kernel_rfl) (by decide) (fun K hK => ?_)
                    refine Kd.R_append_step k32 (w0 := w4) w.heap.size (by rfl) (.tmp 100) (.tmp 108) 22 32 (.agg #[.int .i64 0, .int .i64 0]) 16 rfl Tryd.underlying22 info32 rfl (by decide) (by omega) v ps ⟨x, y⟩ [.int .i64 x, .int .i64 y] (Off g2 g4 g6) (fun _ => False) rfl rfl ?aP ?aK ?aF ?aO ?aB ?aS ?aL ?_
                    (case aP => exact k32_mkM _ _ _ ⟨x, y⟩)
                    (case aK => exact fun _ h => h.elim)
                    (case aF => exact fun k hk => by have h1 := blk_lt P4.out.inv.t.own; have h2 := blk_lt P4.out.inv.z4; have h3 := blk_lt P4.out.inv.z6; exact ⟨by omega, by omega, by omega⟩)
                    (case aO => exact P4.out.row)
                    (case aB => exact Below.refl _ _)
                    (case aS => exact P4.out.inv.t.low.size)
                    (case aL => have := HPS.out; omega)
                    intro v5 w5 ho hb hg hat
                    obtain ⟨A5, c5, e5, _⟩ := Kd.R_reads ho
                    rw [List.length_append, List.length_singleton] at e5
                    subst e5
                    have HO5 := Aside0.mk ho
                    have HB5 := Aside0.mk hb
                    have HG5 := Aside0.mk (blk_grown P4.out.inv.t.own hg (Kd.R_away P4.out.row (fun _ h => h.1)))
                    have HZ4 := Aside0.mk (blk_grown P4.out.inv.z4 hg (Kd.R_away P4.out.row (fun _ h => h.2.1)))
                    have HZ6 := Aside0.mk (blk_grown P4.out.inv.z6 hg (Kd.R_away P4.out.row (fun _ h => h.2.2)))
                    clear ho hb hg hat
                    refine hK.out _ _ ⟨by rw [P4.out.val]; exact blk_cell HG5.out 10, blk_frozen HG5.out 10⟩ (fun hHeld => ?_)
                    clear hK K
                    refine norm_ (a' := ?_) ?_ ?_
                    rotate_left
                    · show Act.put _ (some 109) _ = _
                      simp only [Act.put, List.setIfInBounds_toArray, List.set_cons_zero, List.set_cons_succ, i64_w, i32_w]
                      rfl
                    refine pure_ (i := 11) (N := some 110) (v := ?_) (a' := ?_) #[true, true, true, true, true, true, true, true, true, true, true, true, false] rfl rfl (by kernel_rfl) (fun _ _ _ h => h) (Or.inl ⟨by rfl, ?_⟩) ?_ ?_
                    rotate_left
                    · intro w'
                      go_simp
                      with_reducible rfl
                    rotate_left
                    · simp only [Act.put, List.setIfInBounds_toArray, List.set_cons_zero, List.set_cons_succ, i64_w, i32_w]
                      rfl
                    refine last_ (i := 12) (N := none) #[true, true, true, true, true, true, true, true, true, true, true, true, true] rfl rfl (by kernel_rfl) (by decide) (fun K hK => ?_)
                    refine skip_ (w1 := ?_) (by rfl) rfl ?_ ?_
                    rotate_left
                    · go_simp
                      rfl
                    refine hK.out _ _ ?_
                    clear hK K
                    refine done_ (by kernel_rfl) ?_
                    repeat (rename World.cell? _ _ = _ ∧ _ => hh; clear hh)
                    clear c0 c1
                    go_wp2_with fail
                    have hPl : (ps ++ [(⟨x, y⟩ : S32)]).length = ps.length + 1 := by rw [List.length_append]; rfl
                    have hI := (RI.mk (TInv.mk HG5.out (P4.out.inv.t.low.trans HB5.out) P4.out.inv.t.ge) HZ4.out HZ6.out P4.out.inv.ne).put10 (ps ++ [⟨x, y⟩]) A5 c5
                    rw [hPl] at hI
                    have hR := Kd.R_far HO5.out (p := ⟨g2, 10, none⟩) (fun _ h => h.1) (.slice A5 (ps.length + 1) c5)
                    refine ⟨⟨m, q.extract 6 q.size, ps ++ [⟨x, y⟩], A5, c5, rfl, HQ2, ⟨by rw [hPl]; have := HL2.out; omega⟩, ⟨by rw [← HE.out, HST.out, List.append_assoc]; rfl⟩, ⟨?_⟩⟩, ?_⟩
                    · rw [hPl]
                      exact ⟨hI, by rw [hPl], hR⟩
                    · show (q.extract 6 q.size).size < q.size
                      have h1 := HQ.out
                      have h2 := HQ2.out
                      omega
              · have b4 : (f2.ty == 4) = false := beq_eq_false_iff_ne.mpr h4
                have HMM : Aside0 (({ f2 with da := p2 } : Fr) = M) := ⟨by
                  have h := HJ.out.res
                  unfold t5 at h
                  rw [if_neg h4] at h
                  exact h⟩
                have HNP := Aside0.mk HJ.out.ps
                clear HJ h4
                go_wp2_with fail
                go_loopw [1] (fun v w' => v = .string p2 ∧ Aside0 (RI w w' g2 g4 g6 f2 none 0)) (fun _ _ => 0)
                case atStart => exact ⟨rfl, T⟩
                case round =>
                  obtain ⟨rfl, T1⟩ := hrel
                  clear T
                  have T := T1
                  clear T1
                  have z0 := T.out.t.own.c0
                  have y3 := T.out.t.own.c3
                  have yf3 := blk_frozen T.out.t.own 3
                  go_upto_region 22 with fail
                  clear y3 yf3
                  obtain ⟨W7, hW⟩ : ∃ W, wr.setCell ⟨g2, 3, none⟩ (.string p2) = W := ⟨_, rfl⟩
                  have T7 : Aside0 (RI w W7 g2 g4 g6 M none 0) := ⟨by rw [← hW, ← HMM.out]; exact T.out.put3 p2⟩
                  have HRV : Aside0 (Kd.R k32 32 W7 w.heap.size (Off g2 g4 g6) (.slice none M.ps.length 0) M.ps) := ⟨by rw [← hW, ← HMM.out]; exact Kd.R_far ((by rw [HNP.out]; exact Kd.R_nil _ _ _ _ _)) (p := ⟨g2, 3, none⟩) (fun _ h => h.1) _⟩
                  rw [hW]
                  clear hW T
                  go_wp2_with (first
                    | (refine wpList_load_row rfl 24 _ rfl g2 rfl 24 (M.cells none 0) (0, 0) _ T7.out.t.own Tryd.underlying24 (by rfl) (by kernel_rfl) ?_)
                    | (refine wpList_store_row rfl 24 _ _ rfl g4 (M.cells none 0) rfl rfl 24 _ T7.out.z4 (by kernel_rfl) (by kernel_rfl) (by kernel_rfl) ?_; obtain ⟨W8, e8, q4, qo, qb⟩ := row_store _ g4 (M.cells none 0) 24 _ T7.out.z4; rw [e8]; have Q4 := Aside0.mk q4; have Q6 := Aside0.mk ((qo _ (by have := T7.out.ne; omega)).trans T7.out.z6); have QO := Aside0.mk qo; have QL := Aside0.mk (qb _ _ T7.out.t.low (by have h1 := T7.out.t.ge; have h2 := T7.out.ne; omega)); have QN := Aside0.mk T7.out.ne; have QG := Aside0.mk T7.out.t.ge; clear q4 qo qb e8)
                    | (refine wpList_store_row rfl 35 _ _ rfl g6 #[.int .i64 0, .int .i64 0] rfl rfl 35 _ Q6.out (by kernel_rfl) (by kernel_rfl) (by kernel_rfl) ?_; obtain ⟨W9, e9, p6, po, pb⟩ := row_store _ g6 #[.int .i64 0, .int .i64 0] 35 _ Q6.out; rw [e9]; have R6 := Aside0.mk p6; have R4 := Aside0.mk ((po _ (by have := QN.out; omega)).trans Q4.out); have PO := Aside0.mk po; have RL := Aside0.mk (pb _ _ QL.out (by have h1 := QN.out; have h2 := QG.out; omega)); clear p6 po pb e9))
                  exact bodyPost_ret (res66 _ _ g4 g6 M none 0 (9 + (p.size : Int)) 0 0 rfl rfl rfl R4.out R6.out) rfl (by rw [← HRM.out]; exact rd_ok rfl HRV.out (fun k hk => (PO.out k hk.2.2).trans (QO.out k hk.2.1)) RL.out)
end Go.Proofs.YtoffhlbdfhhhjaaDoor.Fr
namespace Go.Proofs.YtoffhlbdfhhhjaaDoor.Fr
open Go Go.RowKit Go.Proofs.YtoffhlbdfhhhjaaDoorW.PrintWords Go.Proofs.YtoffhlbdfhhhjaaDoorW.PrintLast Go.Proofs.YtoffhlbdfhhhjaaDoorW.PrintMore Go.Proofs.YtoffhlbdfhhhjaaDoor.QL
set_option linter.unusedSimpArgs false
set_option linter.unusedVariables false
set_option maxHeartbeats 40000000
set_option maxRecDepth 100000
theorem hd_rd0 (b : ByteArray) : Hd (rd0 b) := by
  have b3 := bt_range b 3
  have b4 := bt_range b 4
  have hk := kFl_range (bt b 3)
  obtain ⟨kb, hkb⟩ := Int.eq_ofNat_of_zero_le hk.1
  have hr := and_le (bt b 4) kb (by omega)
  have e : (rd0 b).fl = Go.bits .and .i64 (bt b 4) (kFl (bt b 3)) := rfl
  have h1 : Go.bits .andNot .i64 (rd0 b).fl (kFl (bt b 3)) = 0 := by rw [e]; exact andNot_and _ _
  have h2 : -9223372036854775808 ≤ (rd0 b).fl ∧ (rd0 b).fl ≤ 9223372036854775807 := by rw [e, hkb]; omega
  have h3 : 0 ≤ (rd0 b).fl ∧ (rd0 b).fl ≤ 255 := by rw [e, hkb]; omega
  exact ⟨b3, h3, and_of_andNot _ _ h2.1 h2.2 h1⟩
theorem rdF_ref (b : ByteArray) (most : Int) (h9 : ¬ b.size < 9) (n : Nat) (hn : rdN b = n) (h2 : ¬ min (max most 16384) 65536 < (n : Int)) (h3 : ¬ (b.size : Int) - 9 < n) (f : Fr) (hf : rd0 b = f) (p : ByteArray) (hp : b.extract 9 (9 + n) = p) :
    p.size = n ∧ rdF b most = if stB f.ty f.st = false then .bad 1 else if lenR f p.size = false then (if f.ty = 2 then ⟨Fr.zero, 9 + p.size, 6, f.st⟩ else .bad 6) else rdRef f p.size p := by
  have hs : p.size = n := by rw [← hp, ByteArray.size_extract]; omega
  refine ⟨hs, ?_⟩
  unfold rdF
  rw [if_neg h9, hn, if_neg h2, if_neg h3, hf, Int.toNat_natCast, hp, ← hs]
  exact rdRest_ref f (by rw [← hf]; exact hd_rd0 b) (by rw [← hf]; rfl) p.size p rfl
theorem rd_again {w w1 w2 W : World} {r : Rd} {A : Option Addr} {c : Nat} {e : Ending} (he : e = .returned (.tuple #[.agg (r.fr.cells A c), .int .i64 r.no, .agg #[.int .i64 r.code, .int .i64 r.st]])) (hR : Kd.R k32 32 w2 w1.heap.size (fun _ => True) (.slice A r.fr.ps.length c) r.fr.ps) (hL1 : w.heap.size ≤ w1.heap.size)
    (hs : ∀ k, w1.heap.size ≤ k → W.heap[k]? = w2.heap[k]?) (hL : Below w.heap.size w W) : RdPost w r e W :=
  ⟨A, c, he, Kd.R_lower (Kd.R_mono (Kd.R_step (Kd.R_bound hR) (fun k hk _ => hs k hk.2.1)) (fun _ _ => trivial)) hL1, hL⟩
theorem res21 (tmps : Array Value) (W : World) (g4 g6 : Nat) (f : Fr) (A : Option Addr) (c : Nat) (no code st : Int) (h4 : tmps.getD 4 undef = .pointer (some ⟨g4, 0, none⟩)) (h5 : tmps.getD 5 undef = .int .i64 no) (h6 : tmps.getD 6 undef = .pointer (some ⟨g6, 0, none⟩)) (hf : At W g4 f A c) (he : W.heap[g6]? = some (.cells #[.int .i64 code, .int .i64 st] 35 (0, 0))) :
    (results Tryd.f21 tmps).run Tryd.prog W = .ok (.tuple #[.agg (f.cells A c), .int .i64 no, .agg #[.int .i64 code, .int .i64 st]]) W := by
  have r1 := run_loadVar_row (P := Tryd.prog) W g4 24 24 (f.cells A c) (0, 0) _ hf Tryd.underlying24 (by rfl) (by kernel_rfl)
  have r2 := run_loadVar_row (P := Tryd.prog) W g6 35 35 #[.int .i64 code, .int .i64 st] (0, 0) _ he Tryd.underlying35 (by rfl) (by kernel_rfl)
  have e : Tryd.f21.results = #[.cell 4 24, .tmp 5, .cell 6 35] := rfl
  simp only [Array.getD_eq_getD_getElem?] at h4 h5 h6
  simp [results, e, h4, h5, h6, asAddr, Sem.run_bind, r1, r2]
theorem readR_calls (b : ByteArray) (most : Int) (w : World) (h63 : b.size ≤ 9223372036854775807) : Calls Tryd.prog 21 #[.string b, .int .i64 most] w fun e w' => RdPost w (rdF b most) e w' := by
  have HB := Aside0.mk (Below.refl w.heap.size w)
  have H63 := Aside0.mk h63
  clear h63
  obtain ⟨R, hR⟩ : ∃ R, rdF b most = R := ⟨_, rfl⟩
  have HR := Aside0.mk hR
  rw [hR]
  clear hR
  go_enter Tryd.func21, Tryd.ntmps21
  go_upto_region 1 with fail
  obtain ⟨W1, hW1⟩ : ∃ W, (w.alloc (.cells #[.int .i64 0, .int .i64 0, .int .i64 0, .string ⟨#[]⟩, .int .i64 0, .int .i64 0, .bool false, .int .i64 0, .int .i64 0, .int .i64 0, .slice none 0 0] 24)).alloc (.cells #[.int .i64 0, .int .i64 0] 35) = W := ⟨_, rfl⟩
  have Z4 : Aside0 (At W1 w.heap.size Fr.zero none 0) := ⟨by rw [← hW1]; exact (zero_new w).low (below_alloc (Below.refl _ _) _)⟩
  have Z6 : Aside0 (W1.heap[w.heap.size + 1]? = some (.cells #[.int .i64 0, .int .i64 0] 35 (0, 0))) := ⟨by rw [← hW1]; exact heap_alloc2_new _ _ _⟩
  have L1 : Aside0 (Below w.heap.size w W1) := ⟨by rw [← hW1]; exact below_alloc (below_alloc HB.out _) _⟩
  obtain ⟨g4, hg4⟩ : ∃ g, w.heap.size = g := ⟨_, rfl⟩
  obtain ⟨g6, hg6⟩ : ∃ g, g4 + 1 = g := ⟨_, rfl⟩
  rw [hW1, hg4, hg6]
  rw [hg4] at Z4 Z6
  rw [hg6] at Z6
  have HG4 := Aside0.mk hg4
  have HG6 := Aside0.mk hg6
  clear hW1 hg4 hg6 HB
  obtain ⟨x, hx⟩ : ∃ x, decide (most < 16384) = x := ⟨_, rfl⟩
  have HX1 := Aside0.mk hx
  go_upto_if 11 with fail
  clear hx
  go_cut [1] from 1 to 1 (fun v wc => v = .int .i64 (max most 16384) ∧ Aside0 (wc = W1))
  case first =>
    cases x
    · go_wp2_with fail
      go_meet
      case rel => exact ⟨by have := of_decide_eq_false HX1.out; rw [Int.max_eq_left (by omega)], ⟨rfl⟩⟩
    · go_wp2_with fail
      go_meet
      case rel => exact ⟨by have := of_decide_eq_true HX1.out; rw [Int.max_eq_right (by omega)], ⟨rfl⟩⟩
  case rest =>
    obtain ⟨rfl, HWC⟩ := hcut
    rw [HWC.out]
    clear HWC
    obtain ⟨m1, hm1⟩ : ∃ m, max most 16384 = m := ⟨_, rfl⟩
    have HM1 := Aside0.mk hm1
    rw [hm1]
    obtain ⟨y, hy⟩ : ∃ y, decide (65536 < m1) = y := ⟨_, rfl⟩
    have HX2 := Aside0.mk hy
    clear hm1
    go_upto_if 13 with fail
    clear hy
    go_cut [1] from 1 to 1 (fun v wc => v = .int .i64 (min m1 65536) ∧ Aside0 (wc = W1))
    case first =>
      cases y
      · go_wp2_with fail
        go_meet
        case rel => exact ⟨by have := of_decide_eq_false HX2.out; rw [Int.min_eq_left (by omega)], ⟨rfl⟩⟩
      · go_wp2_with fail
        go_meet
        case rel => exact ⟨by have := of_decide_eq_true HX2.out; rw [Int.min_eq_right (by omega)], ⟨rfl⟩⟩
    case rest =>
      obtain ⟨rfl, HWC⟩ := hcut
      rw [HWC.out]
      clear HWC
      obtain ⟨mm, hmm⟩ : ∃ m, min m1 65536 = m := ⟨_, rfl⟩
      have HMM : Aside0 (min (max most 16384) 65536 = mm) := ⟨by rw [HM1.out]; exact hmm⟩
      rw [hmm]
      clear hmm
      by_cases h9 : b.size < 9
      · have s1 : decide ((b.size : Int) < 9) = true := decide_eq_true (by omega)
        have s2 : decide (b.size < 9) = true := decide_eq_true h9
        have HV : rdF b most = .bad 0 := by unfold rdF; rw [if_pos h9]
        have Y4 := Aside0.mk (Z4.out.low (Below.refl W1.heap.size W1))
        have Y6 := Aside0.mk (blk_below Z6.out (Below.refl W1.heap.size W1))
        have L3 := Aside0.mk (below_then L1.out L1.out.size (Below.refl W1.heap.size W1))
        go_wp2_with (first
            | (refine wpList_store_row rfl 24 _ _ rfl g4 (#[.int .i64 0, .int .i64 0, .int .i64 0, .string ⟨#[]⟩, .int .i64 0, .int .i64 0, .bool false, .int .i64 0, .int .i64 0, .int .i64 0, .slice none 0 0]) rfl rfl 24 _ Y4.out (by kernel_rfl) (by kernel_rfl) (by kernel_rfl) ?_; obtain ⟨W8, e8, q4, qo, qb⟩ := row_store _ g4 (#[.int .i64 0, .int .i64 0, .int .i64 0, .string ⟨#[]⟩, .int .i64 0, .int .i64 0, .bool false, .int .i64 0, .int .i64 0, .int .i64 0, .slice none 0 0]) 24 _ Y4.out; rw [e8]; have Q4 := Aside0.mk q4; have Q6 := Aside0.mk ((qo _ (by have := HG6.out; omega)).trans Y6.out); have QO := Aside0.mk qo; have QL := Aside0.mk (qb _ _ L3.out (by have := HG4.out; omega)); clear q4 qo qb e8)
            | (refine wpList_store_row rfl 35 _ _ rfl g6 #[.int .i64 0, .int .i64 0] rfl rfl 35 _ Q6.out (by kernel_rfl) (by kernel_rfl) (by kernel_rfl) ?_; obtain ⟨W9, e9, p6, po, pb⟩ := row_store _ g6 #[.int .i64 0, .int .i64 0] 35 _ Q6.out; rw [e9]; have R6 := Aside0.mk p6; have R4 := Aside0.mk ((po _ (by have := HG6.out; omega)).trans Q4.out); have PO := Aside0.mk po; have RL := Aside0.mk (pb _ _ QL.out (by have := HG4.out; have := HG6.out; omega)); clear p6 po pb e9))
        exact bodyPost_ret (res21 _ _ g4 g6 Fr.zero none 0 0 0 0 rfl rfl rfl R4.out R6.out) rfl (by rw [← HR.out, HV]; exact RdPost.zero 0 0 0 rfl RL.out)
      have s1 : decide ((b.size : Int) < 9) = false := decide_eq_false (by omega)
      have s2 : decide (b.size < 9) = false := decide_eq_false h9
      have HS := Aside0.mk h9
      have HSZ : Aside0 ((b.extract 0 3).size ≤ 4) := ⟨by simp; omega⟩
      have b3 : (3 : Int) ≤ (b.size : Int) := by omega
      obtain ⟨n, hn⟩ : ∃ n : Nat, rdN b = n := ⟨(rdN b).toNat, by have := (num4 _ HSZ.out).1; unfold rdN; omega⟩
      have HN : Aside0 (num (b.extract 0 3) = n) := ⟨hn⟩
      clear h9 hn
      go_upto_region 8 with (go_at_call 61; refine (getR_below (b.extract 0 3) (n : Int) _ HSZ.out HN.out).mono ?_; rintro e w3 ⟨rfl, hb⟩; have LL3 := Aside0.mk hb; clear hb)
      clear s1 s2 b3
      by_cases hl : mm < (n : Int)
      · have s1 : decide (mm < (n : Int)) = true := decide_eq_true hl
        have HV : rdF b most = .bad 6 := by unfold rdF; rw [if_neg HS.out, HMM.out, show rdN b = n from HN.out, if_pos hl]
        have Y4 := Aside0.mk (Z4.out.low LL3.out)
        have Y6 := Aside0.mk (blk_below Z6.out LL3.out)
        have L3 := Aside0.mk (below_then L1.out L1.out.size LL3.out)
        go_wp2_with (first
            | (refine wpList_store_row rfl 24 _ _ rfl g4 (#[.int .i64 0, .int .i64 0, .int .i64 0, .string ⟨#[]⟩, .int .i64 0, .int .i64 0, .bool false, .int .i64 0, .int .i64 0, .int .i64 0, .slice none 0 0]) rfl rfl 24 _ Y4.out (by kernel_rfl) (by kernel_rfl) (by kernel_rfl) ?_; obtain ⟨W8, e8, q4, qo, qb⟩ := row_store _ g4 (#[.int .i64 0, .int .i64 0, .int .i64 0, .string ⟨#[]⟩, .int .i64 0, .int .i64 0, .bool false, .int .i64 0, .int .i64 0, .int .i64 0, .slice none 0 0]) 24 _ Y4.out; rw [e8]; have Q4 := Aside0.mk q4; have Q6 := Aside0.mk ((qo _ (by have := HG6.out; omega)).trans Y6.out); have QO := Aside0.mk qo; have QL := Aside0.mk (qb _ _ L3.out (by have := HG4.out; omega)); clear q4 qo qb e8)
            | (refine wpList_store_row rfl 35 _ _ rfl g6 #[.int .i64 6, .int .i64 0] rfl rfl 35 _ Q6.out (by kernel_rfl) (by kernel_rfl) (by kernel_rfl) ?_; obtain ⟨W9, e9, p6, po, pb⟩ := row_store _ g6 #[.int .i64 6, .int .i64 0] 35 _ Q6.out; rw [e9]; have R6 := Aside0.mk p6; have R4 := Aside0.mk ((po _ (by have := HG6.out; omega)).trans Q4.out); have PO := Aside0.mk po; have RL := Aside0.mk (pb _ _ QL.out (by have := HG4.out; have := HG6.out; omega)); clear p6 po pb e9))
        exact bodyPost_ret (res21 _ _ g4 g6 Fr.zero none 0 0 6 0 rfl rfl rfl R4.out R6.out) rfl (by rw [← HR.out, HV]; exact RdPost.zero 0 6 0 rfl RL.out)
      have s1 : decide (mm < (n : Int)) = false := decide_eq_false hl
      have HLM : Aside0 (¬ min (max most 16384) 65536 < (n : Int)) := ⟨by rw [HMM.out]; exact hl⟩
      have hn16 : n ≤ 65536 := by have := HLM.out; omega
      obtain ⟨q, hq⟩ : ∃ q : Nat, 9 + n = q := ⟨_, rfl⟩
      have hw9 : wrap64 (9 + (n : Int)) = (q : Int) := by unfold wrap64; omega
      by_cases hp : b.size < q
      · have s2 : decide ((b.size : Int) < (q : Int)) = true := decide_eq_true (by omega)
        have s3 : decide (b.size < q) = true := decide_eq_true hp
        have HV : rdF b most = .bad 0 := by unfold rdF; rw [if_neg HS.out, HMM.out, show rdN b = n from HN.out, if_neg hl, if_pos (by omega)]
        have Y4 := Aside0.mk (Z4.out.low LL3.out)
        have Y6 := Aside0.mk (blk_below Z6.out LL3.out)
        have L3 := Aside0.mk (below_then L1.out L1.out.size LL3.out)
        go_wp2_with (first
            | (refine wpList_store_row rfl 24 _ _ rfl g4 (#[.int .i64 0, .int .i64 0, .int .i64 0, .string ⟨#[]⟩, .int .i64 0, .int .i64 0, .bool false, .int .i64 0, .int .i64 0, .int .i64 0, .slice none 0 0]) rfl rfl 24 _ Y4.out (by kernel_rfl) (by kernel_rfl) (by kernel_rfl) ?_; obtain ⟨W8, e8, q4, qo, qb⟩ := row_store _ g4 (#[.int .i64 0, .int .i64 0, .int .i64 0, .string ⟨#[]⟩, .int .i64 0, .int .i64 0, .bool false, .int .i64 0, .int .i64 0, .int .i64 0, .slice none 0 0]) 24 _ Y4.out; rw [e8]; have Q4 := Aside0.mk q4; have Q6 := Aside0.mk ((qo _ (by have := HG6.out; omega)).trans Y6.out); have QO := Aside0.mk qo; have QL := Aside0.mk (qb _ _ L3.out (by have := HG4.out; omega)); clear q4 qo qb e8)
            | (refine wpList_store_row rfl 35 _ _ rfl g6 #[.int .i64 0, .int .i64 0] rfl rfl 35 _ Q6.out (by kernel_rfl) (by kernel_rfl) (by kernel_rfl) ?_; obtain ⟨W9, e9, p6, po, pb⟩ := row_store _ g6 #[.int .i64 0, .int .i64 0] 35 _ Q6.out; rw [e9]; have R6 := Aside0.mk p6; have R4 := Aside0.mk ((po _ (by have := HG6.out; omega)).trans Q4.out); have PO := Aside0.mk po; have RL := Aside0.mk (pb _ _ QL.out (by have := HG4.out; have := HG6.out; omega)); clear p6 po pb e9))
        exact bodyPost_ret (res21 _ _ g4 g6 Fr.zero none 0 0 0 0 rfl rfl rfl R4.out R6.out) rfl (by rw [← HR.out, HV]; exact RdPost.zero 0 0 0 rfl RL.out)
      have s2 : decide ((b.size : Int) < (q : Int)) = false := decide_eq_false (by omega)
      have s3 : decide (b.size < q) = false := decide_eq_false hp
      have i9 : (q : Int) ≤ (b.size : Int) := by omega
      have j9 : (9 : Int) ≤ (q : Int) := by omega
      have b5 : (9 : Int) ≤ (b.size : Int) := by omega
      have n3 : 3 < b.size := by omega
      have n4 : 4 < b.size := by omega
      have i3 : (3 : Int) < (b.size : Int) := by omega
      have i4 : (4 : Int) < (b.size : Int) := by omega
      have HS59 : Aside0 ((b.extract 5 9).size ≤ 4) := ⟨ext4 b 5⟩
      obtain ⟨t, ht⟩ : ∃ t, bt b 3 = t := ⟨_, rfl⟩
      have ht3 : ((b[3]'n3).toNat : Int) = t := (bt_at b 3 n3).trans ht
      obtain ⟨u, hu⟩ : ∃ u, bt b 4 = u := ⟨_, rfl⟩
      have hu4 : ((b[4]'n4).toNat : Int) = u := (bt_at b 4 n4).trans hu
      have hwt : wrap64 t = t := by have h := bt_range b 3; rw [ht] at h; unfold wrap64; omega
      have hwu : wrap64 u = u := by have h := bt_range b 4; rw [hu] at h; unfold wrap64; omega
      obtain ⟨x, hx⟩ : ∃ x, num (b.extract 5 9) % 2147483648 = x := ⟨_, rfl⟩
      obtain ⟨k, hk⟩ : ∃ k, kFl t = k := ⟨_, rfl⟩
      obtain ⟨fl, hfl⟩ : ∃ fl, Go.bits .and .i64 u k = fl := ⟨_, rfl⟩
      have HX := Aside0.mk hx
      have HK := Aside0.mk hk
      have H0 : Aside0 (0 ≤ t) := ⟨by rw [← ht]; exact (bt_range b 3).1⟩
      have HF : Aside0 (rd0 b = (⟨t, fl, x, ByteArray.empty, 0, 0, false, 0, 0, 0, []⟩ : Fr)) := ⟨by unfold rd0; rw [ht, hu, hk, hfl, hx]; rfl⟩
      have HHD : Aside0 (Hd (⟨t, fl, x, ByteArray.empty, 0, 0, false, 0, 0, 0, []⟩ : Fr)) := ⟨by rw [← HF.out]; exact hd_rd0 b⟩
      obtain ⟨p, hpx⟩ : ∃ p, b.extract 9 q = p := ⟨_, rfl⟩
      have HREF := Aside0.mk (rdF_ref b most HS.out n HN.out HLM.out (by omega) _ HF.out p (by rw [hq]; exact hpx))
      have HNQ : Aside0 (n ≤ 65536 ∧ 9 + n = q) := ⟨hn16, hq⟩
      have HPX := Aside0.mk hpx
      clear hl hp hn16 hq hx hk ht hu hpx
      go_upto_region 12 with fail
      clear s1 s2 s3
      refine start_ (n := 9) (S := fun w' => Below W1.heap.size W1 w') (ds := [8]) #[false, false, false, false, false, false, false, false, false] (by kernel_rfl) rfl rfl (below_then LL3.out LL3.out.size (below_drew (Below.refl _ _))) (fun hHeld => ?_)
      refine pure_ (i := 0) (N := some 34) (v := ?_) (a' := ?_) #[true, false, false, false, false, false, false, false, false] rfl rfl (by kernel_rfl) (fun _ _ _ h => h) (Or.inl ⟨by rfl, ?_⟩) ?_ ?_
      rotate_left
      · intro w'
        go_simp
        with_reducible rfl
      rotate_left
      · simp only [Act.put, List.setIfInBounds_toArray, List.set_cons_zero, List.set_cons_succ, i64_w, i32_w]
        rfl
      refine pure_ (i := 3) (N := some 37) (v := ?_) (a' := ?_) #[true, false, false, true, false, false, false, false, false] rfl rfl (by kernel_rfl) (fun _ _ _ h => h) (Or.inl ⟨by rfl, ?_⟩) ?_ ?_
      rotate_left
      · intro w'
        go_simp
        with_reducible rfl
      rotate_left
      · simp only [Act.put, List.setIfInBounds_toArray, List.set_cons_zero, List.set_cons_succ, i64_w, i32_w]
        rfl
      refine pure_ (i := 4) (N := some 38) (v := ?_) (a' := ?_) #[true, false, false, true, true, false, false, false, false] rfl rfl (by kernel_rfl) (fun _ _ _ h => h) (Or.inl ⟨by rfl, ?_⟩) ?_ ?_
      rotate_left
      · intro w'
        go_simp
        with_reducible rfl
      rotate_left
      · simp only [Act.put, List.setIfInBounds_toArray, List.set_cons_zero, List.set_cons_succ, i64_w, i32_w]
        rfl
      refine take_ (i := 1) (N := some 35) (v := ?_) (a' := ?_) #[true, true, false, true, true, false, false, false, false] rfl rfl (by kernel_rfl) (fun _ _ _ h => h) (Or.inl ⟨by rfl, ?_⟩) hHeld ?_ ?_
      rotate_left
      · intro w' s0
        go_simp
        with_reducible rfl
      rotate_left
      · simp only [Act.put, List.setIfInBounds_toArray, List.set_cons_zero, List.set_cons_succ, i64_w, i32_w]
        rfl
      refine pure_ (i := 2) (N := some 36) (v := ?_) (a' := ?_) #[true, true, true, true, true, false, false, false, false] rfl rfl (by kernel_rfl) (fun _ _ _ h => h) (Or.inl ⟨by rfl, ?_⟩) ?_ ?_
      rotate_left
      · intro w'
        go_simp
        with_reducible rfl
      rotate_left
      · simp only [Act.put, List.setIfInBounds_toArray, List.set_cons_zero, List.set_cons_succ, i64_w, i32_w]
        rfl
      refine join_ (σ := Nat) 1 #[true, true, true, true, true, true, true, true, false] (fun s => [(39, .int .i64 x), (40, .agg #[.int .i64 t, .int .i64 0, .int .i64 x, .string ⟨#[]⟩, .int .i64 0, .int .i64 0, .bool false, .int .i64 0, .int .i64 0, .int .i64 0, .slice none 0 0]), (8, .pointer (some ⟨s, 0, none⟩))]) (fun s w' => At w' s Fr.zero none 0 ∧ W1.heap.size ≤ s ∧ Below W1.heap.size W1 w') ?_ ?_
      rotate_left
      · intro hCont
        refine two_ (i := 5) (j := 7) (Ni := some 39) (Nj := some 8) #[true, true, true, true, true, true, false, false, false] #[true, true, true, true, true, false, false, true, false] rfl rfl rfl rfl (by kernel_rfl) (by decide) (by decide) (fun K hK => ?_) (fun K hK => ?_)
        · skip
          refine goes_ Tryd.func62 (by kernel_rfl) rfl #[.string (b.extract 5 9)] (by rfl) rfl rfl (by simp only [List.map_toArray, List.map_cons, List.map_nil]; rfl) ?_
          with_reducible refine (idR_below (b.extract 5 9) x _ HS59.out HX.out).mono ?_
          rintro e w5 ⟨rfl, hb⟩
          refine ⟨_, rfl, ?_⟩
          refine hK.out _ _ (below_then hHeld hHeld.size hb) (fun hHeld => ?_)
          clear hK K
          refine norm_ (a' := ?_) ?_ ?_
          rotate_left
          · show Act.put _ (some 39) _ = _
            simp only [Act.put, List.setIfInBounds_toArray, List.set_cons_zero, List.set_cons_succ, i64_w, i32_w]
            rfl
          refine pure_ (i := 6) (N := some 40) (v := ?_) (a' := ?_) #[true, true, true, true, true, true, true, false, false] rfl rfl (by kernel_rfl) (fun _ _ _ h => h) (Or.inl ⟨by rfl, ?_⟩) ?_ ?_
          rotate_left
          · intro w'
            go_simp
            with_reducible rfl
          rotate_left
          · simp only [Act.put, List.setIfInBounds_toArray, List.set_cons_zero, List.set_cons_succ, i64_w, i32_w]
            rfl
          refine one_ (i := 7) (N := some 8) #[true, true, true, true, true, true, true, true, false] rfl rfl (by kernel_rfl) (by decide) (fun K hK => ?_)
          refine value_ (w1 := ?_) (v := ?_) (by rfl) rfl ?_ ?_
          rotate_left 2
          · go_simp
            constructor
            · rfl
            · rfl
          refine hK.out _ _ (below_then hHeld hHeld.size (below_alloc (Below.refl _ _) _)) (fun hHeld => ?_)
          clear hK K
          refine norm_ (a' := ?_) ?_ ?_
          rotate_left
          · show Act.put _ (some 8) _ = _
            simp only [Act.put, List.setIfInBounds_toArray, List.set_cons_zero, List.set_cons_succ, i64_w, i32_w]
            rfl
          exact norm_ (by simp only [putAll, Act.put, List.setIfInBounds_toArray, List.set_cons_zero, List.set_cons_succ]) (hCont _ _ ⟨zero_new _, Nat.le_trans LL3.out.size hb.size, hHeld⟩)
        · skip
          refine value_ (w1 := ?_) (v := ?_) (by rfl) rfl ?_ ?_
          rotate_left 2
          · go_simp
            constructor
            · rfl
            · rfl
          refine hK.out _ _ (below_then hHeld hHeld.size (below_alloc (Below.refl _ _) _)) (fun hHeld => ?_)
          clear hK K
          refine norm_ (a' := ?_) ?_ ?_
          rotate_left
          · show Act.put _ (some 8) _ = _
            simp only [Act.put, List.setIfInBounds_toArray, List.set_cons_zero, List.set_cons_succ, i64_w, i32_w]
            rfl
          refine one_ (i := 5) (N := some 39) #[true, true, true, true, true, true, false, true, false] rfl rfl (by kernel_rfl) (by decide) (fun K hK => ?_)
          refine goes_ Tryd.func62 (by kernel_rfl) rfl #[.string (b.extract 5 9)] (by rfl) rfl rfl (by simp only [List.map_toArray, List.map_cons, List.map_nil]; rfl) ?_
          with_reducible refine (idR_below (b.extract 5 9) x _ HS59.out HX.out).mono ?_
          rintro e w5 ⟨rfl, hb⟩
          refine ⟨_, rfl, ?_⟩
          refine hK.out _ _ (below_then hHeld hHeld.size hb) (fun hHeld => ?_)
          clear hK K
          refine norm_ (a' := ?_) ?_ ?_
          rotate_left
          · show Act.put _ (some 39) _ = _
            simp only [Act.put, List.setIfInBounds_toArray, List.set_cons_zero, List.set_cons_succ, i64_w, i32_w]
            rfl
          refine pure_ (i := 6) (N := some 40) (v := ?_) (a' := ?_) #[true, true, true, true, true, true, true, true, false] rfl rfl (by kernel_rfl) (fun _ _ _ h => h) (Or.inl ⟨by rfl, ?_⟩) ?_ ?_
          rotate_left
          · intro w'
            go_simp
            with_reducible rfl
          rotate_left
          · simp only [Act.put, List.setIfInBounds_toArray, List.set_cons_zero, List.set_cons_succ, i64_w, i32_w]
            rfl
          exact norm_ (by simp only [putAll, Act.put, List.setIfInBounds_toArray, List.set_cons_zero, List.set_cons_succ]) (hCont _ _ ⟨((zero_new w3).low (below_drew (Below.refl _ _))).low hb, LL3.out.size, hHeld⟩)
      rintro g8 w8 ⟨hZ, hge, hHeld⟩
      refine norm_ (a' := ?_) ?_ ?_
      rotate_left
      · simp only [putAll, Act.put, List.setIfInBounds_toArray, List.set_cons_zero, List.set_cons_succ]
        rfl
      refine last_ (i := 8) (N := none) #[true, true, true, true, true, true, true, true, true] rfl rfl (by kernel_rfl) (by decide) (fun K hK => ?_)
      refine skip_row 24 _ _ rfl (by rfl) rfl g8 #[.int .i64 t, .int .i64 0, .int .i64 x, .string ⟨#[]⟩, .int .i64 0, .int .i64 0, .bool false, .int .i64 0, .int .i64 0, .int .i64 0, .slice none 0 0] rfl rfl 24 _ hZ (by kernel_rfl) (by kernel_rfl) (by kernel_rfl) ?_
      obtain ⟨W8, e8, q4, qo, qb⟩ := row_store _ g8 #[.int .i64 t, .int .i64 0, .int .i64 x, .string ⟨#[]⟩, .int .i64 0, .int .i64 0, .bool false, .int .i64 0, .int .i64 0, .int .i64 0, .slice none 0 0] 24 _ hZ
      rw [e8]
      have T8 : Aside0 (TInv W1 W8 g8 (⟨t, 0, x, ByteArray.empty, 0, 0, false, 0, 0, 0, []⟩ : Fr) none 0) := ⟨⟨q4, qb _ _ hHeld hge, hge⟩⟩
      clear q4 qo qb e8 hZ hge
      refine hK.out _ _ ?_
      clear hK K
      refine done_ (by kernel_rfl) ?_
      repeat (rename World.cell? _ _ = _ ∧ _ => hh; clear hh)
      clear hHeld
      go_upto_region 13 with fail
      refine start_ (n := 9) (S := fun w' => w'.cell? ⟨g8, 0, none⟩ = some (.int .i64 t) ∧ TInv W1 w' g8 (⟨t, 0, x, ByteArray.empty, 0, 0, false, 0, 0, 0, []⟩ : Fr) none 0) (ds := [8]) #[false, false, false, false, false, false, false, false, false] (by kernel_rfl) rfl rfl ⟨(T8.out.below (below_drew (Below.refl _ _))).own.c0, T8.out.below (below_drew (Below.refl _ _))⟩ (fun hHeld => ?_)
      refine pure_ (i := 0) (N := some 41) (v := ?_) (a' := ?_) #[true, false, false, false, false, false, false, false, false] rfl rfl (by kernel_rfl) (fun _ _ _ h => h) (Or.inl ⟨by rfl, ?_⟩) ?_ ?_
      rotate_left
      · intro w'
        go_simp
        with_reducible rfl
      rotate_left
      · simp only [Act.put, List.setIfInBounds_toArray, List.set_cons_zero, List.set_cons_succ, i64_w, i32_w]
        rfl
      refine pure_ (i := 3) (N := some 44) (v := ?_) (a' := ?_) #[true, false, false, true, false, false, false, false, false] rfl rfl (by kernel_rfl) (fun _ _ _ h => h) (Or.inl ⟨by rfl, ?_⟩) ?_ ?_
      rotate_left
      · intro w'
        go_simp
        with_reducible rfl
      rotate_left
      · simp only [Act.put, List.setIfInBounds_toArray, List.set_cons_zero, List.set_cons_succ, i64_w, i32_w]
        rfl
      refine take_ (i := 1) (N := some 42) (v := ?_) (a' := ?_) #[true, true, false, true, false, false, false, false, false] rfl rfl (by kernel_rfl) (fun _ _ _ h => h) (Or.inl ⟨by rfl, ?_⟩) hHeld ?_ ?_
      rotate_left
      · rintro w' ⟨s0, s1⟩
        go_simp
        with_reducible rfl
      rotate_left
      · simp only [Act.put, List.setIfInBounds_toArray, List.set_cons_zero, List.set_cons_succ, i64_w, i32_w]
        rfl
      refine pure_ (i := 2) (N := some 43) (v := ?_) (a' := ?_) #[true, true, true, true, false, false, false, false, false] rfl rfl (by kernel_rfl) (fun _ _ _ h => h) (Or.inl ⟨by rfl, ?_⟩) ?_ ?_
      rotate_left
      · intro w'
        go_simp
        with_reducible rfl
      rotate_left
      · simp only [Act.put, List.setIfInBounds_toArray, List.set_cons_zero, List.set_cons_succ, i64_w, i32_w]
        rfl
      refine take_ (i := 4) (N := some 45) (v := ?_) (a' := ?_) #[true, true, true, true, true, false, false, false, false] rfl rfl (by kernel_rfl) (fun _ _ _ h => h) (Or.inl ⟨by rfl, ?_⟩) hHeld ?_ ?_
      rotate_left
      · rintro w' ⟨s0, s1⟩
        go_simp
        with_reducible rfl
      rotate_left
      · simp only [Act.put, List.setIfInBounds_toArray, List.set_cons_zero, List.set_cons_succ, i64_w, i32_w]
        rfl
      refine one_ (i := 5) (N := some 46) #[true, true, true, true, true, true, false, false, false] rfl rfl (by kernel_rfl) (by decide) (fun K hK => ?_)
      refine goes_ Tryd.func63 (by kernel_rfl) rfl #[.int .i64 t] (by rfl) rfl rfl (by simp only [List.map_toArray, List.map_cons, List.map_nil]; rfl) ?_
      with_reducible refine (flagsR_calls t k _ H0.out HK.out).mono ?_
      rintro e w9 ⟨rfl, hb⟩
      refine ⟨_, rfl, ?_⟩
      refine hK.out _ _ ⟨(hHeld.2.below hb).own.c0, hHeld.2.below hb⟩ (fun hHeld => ?_)
      clear hK K
      refine norm_ (a' := ?_) ?_ ?_
      rotate_left
      · show Act.put _ (some 46) _ = _
        simp only [Act.put, List.setIfInBounds_toArray, List.set_cons_zero, List.set_cons_succ, i64_w, i32_w]
        rfl
      refine pure_ (i := 6) (N := some 47) (v := ?_) (a' := ?_) #[true, true, true, true, true, true, true, false, false] rfl rfl (by kernel_rfl) (fun _ _ _ h => h) (Or.inl ⟨by rfl, ?_⟩) ?_ ?_
      rotate_left
      · intro w'
        go_simp
        with_reducible rfl
      rotate_left
      · simp only [Act.put, List.setIfInBounds_toArray, List.set_cons_zero, List.set_cons_succ, i64_w, i32_w]
        rfl
      refine pure_ (i := 7) (N := some 48) (v := ?_) (a' := ?_) #[true, true, true, true, true, true, true, true, false] rfl rfl (by kernel_rfl) (fun _ _ _ h => h) (Or.inl ⟨by rfl, ?_⟩) ?_ ?_
      rotate_left
      · intro w'
        go_simp
        with_reducible rfl
      rotate_left
      · simp only [Act.put, List.setIfInBounds_toArray, List.set_cons_zero, List.set_cons_succ, i64_w, i32_w]
        rfl
      refine last_ (i := 8) (N := none) #[true, true, true, true, true, true, true, true, true] rfl rfl (by kernel_rfl) (by decide) (fun K hK => ?_)
      have y1 := hHeld.2.own.c1
      have yf1 := blk_frozen hHeld.2.own 1
      have T9 := Aside0.mk hHeld.2
      refine skip_ (w1 := ?_) (by rfl) rfl ?_ ?_
      rotate_left
      · go_simp
        rfl
      clear y1 yf1
      refine hK.out _ _ ?_
      clear hK K
      refine done_ (by kernel_rfl) ?_
      repeat (rename World.cell? _ _ = _ ∧ _ => hh; clear hh)
      go_upto_region 15 with fail
      obtain ⟨W10, hW⟩ : ∃ W, w9.setCell ⟨g8, 1, none⟩ (.int .i64 fl) = W := ⟨_, rfl⟩
      have T : Aside0 (TInv W1 W10 g8 (⟨t, fl, x, ByteArray.empty, 0, 0, false, 0, 0, 0, []⟩ : Fr) none 0) := ⟨by rw [← hW]; exact T9.out.put1 fl⟩
      rw [hW, HPX.out]
      clear hW T9 T8 hw9 hwt hwu ht3 hu4 i9 j9 b5 n3 n4 i3 i4 hfl
      have HSTR : Aside0 (∀ y, stB t x = y → ∀ w, Calls Tryd.prog 64 #[.int .i64 t, .int .i64 x] w fun e w' => e = .returned (.bool y) ∧ Below w.heap.size w w') := ⟨fun y hy w => streamR_calls t x y w H0.out hy⟩
      have HLEN : Aside0 (∀ y, lenR (⟨t, fl, x, ByteArray.empty, 0, 0, false, 0, 0, 0, []⟩ : Fr) p.size = y → ∀ w, Calls Tryd.prog 65 #[.int .i64 t, .int .i64 fl, .int .i64 (p.size : Int)] w fun e w' => e = .returned (.bool y) ∧ Below w.heap.size w w') := ⟨fun y hy w => lenR_calls (⟨t, fl, x, ByteArray.empty, 0, 0, false, 0, 0, 0, []⟩ : Fr) (p.size : Int) y w HHD.out (by omega) hy⟩
      have z0 := T.out.own.c0
      have z2 := T.out.own.c2
      obtain ⟨y, hy⟩ : ∃ y, stB t x = y := ⟨_, rfl⟩
      have HY := Aside0.mk hy
      clear hy
      go_upto_if 58 with (go_at_call 64; refine (HSTR.out y HY.out _).mono ?_; rintro e w11 ⟨rfl, hb⟩; have T2 := Aside0.mk (T.out.below hb); clear hb)
      clear z0 z2 T
      cases y
      · have HV : rdF b most = .bad 1 := by rw [HREF.out.2]; exact if_pos HY.out
        have Y4 := Aside0.mk (Z4.out.low T2.out.low)
        have Y6 := Aside0.mk (blk_below Z6.out T2.out.low)
        have L3 := Aside0.mk (below_then L1.out L1.out.size T2.out.low)
        go_wp2_with (first
            | (refine wpList_store_row rfl 24 _ _ rfl g4 (#[.int .i64 0, .int .i64 0, .int .i64 0, .string ⟨#[]⟩, .int .i64 0, .int .i64 0, .bool false, .int .i64 0, .int .i64 0, .int .i64 0, .slice none 0 0]) rfl rfl 24 _ Y4.out (by kernel_rfl) (by kernel_rfl) (by kernel_rfl) ?_; obtain ⟨W8, e8, q4, qo, qb⟩ := row_store _ g4 (#[.int .i64 0, .int .i64 0, .int .i64 0, .string ⟨#[]⟩, .int .i64 0, .int .i64 0, .bool false, .int .i64 0, .int .i64 0, .int .i64 0, .slice none 0 0]) 24 _ Y4.out; rw [e8]; have Q4 := Aside0.mk q4; have Q6 := Aside0.mk ((qo _ (by have := HG6.out; omega)).trans Y6.out); have QO := Aside0.mk qo; have QL := Aside0.mk (qb _ _ L3.out (by have := HG4.out; omega)); clear q4 qo qb e8)
            | (refine wpList_store_row rfl 35 _ _ rfl g6 #[.int .i64 1, .int .i64 0] rfl rfl 35 _ Q6.out (by kernel_rfl) (by kernel_rfl) (by kernel_rfl) ?_; obtain ⟨W9, e9, p6, po, pb⟩ := row_store _ g6 #[.int .i64 1, .int .i64 0] 35 _ Q6.out; rw [e9]; have R6 := Aside0.mk p6; have R4 := Aside0.mk ((po _ (by have := HG6.out; omega)).trans Q4.out); have PO := Aside0.mk po; have RL := Aside0.mk (pb _ _ QL.out (by have := HG4.out; have := HG6.out; omega)); clear p6 po pb e9))
        exact bodyPost_ret (res21 _ _ g4 g6 Fr.zero none 0 0 1 0 rfl rfl rfl R4.out R6.out) rfl (by rw [← HR.out, HV]; exact RdPost.zero 0 1 0 rfl RL.out)
      have z0 := T2.out.own.c0
      have z1 := T2.out.own.c1
      obtain ⟨y, hy⟩ : ∃ y, lenR (⟨t, fl, x, ByteArray.empty, 0, 0, false, 0, 0, 0, []⟩ : Fr) p.size = y := ⟨_, rfl⟩
      have HYL := Aside0.mk hy
      clear hy
      go_upto_if 68 with (go_at_call 65; refine (HLEN.out y HYL.out _).mono ?_; rintro e w12 ⟨rfl, hb⟩; have T := Aside0.mk (T2.out.below hb); clear hb)
      clear z0 z1 T2
      have HG8 : Aside0 (g6 < g8) := ⟨by have h1 := blk_lt Z6.out; have h2 := T.out.ge; omega⟩
      cases y
      · have z0 := T.out.own.c0
        by_cases t2 : t = 2
        · have t2b : (t == 2) = true := beq_iff_eq.mpr t2
          have HV : Aside0 (R = ⟨Fr.zero, 9 + (p.size : Int), 6, x⟩) := ⟨by rw [← HR.out, HREF.out.2, if_neg (by rw [HY.out]; decide), if_pos HYL.out]; exact if_pos t2⟩
          clear t2
          go_upto_region 19 with fail
          clear z0
          have hw9 : wrap64 (9 + (p.size : Int)) = 9 + (p.size : Int) := by have h1 := HREF.out.1; have h2 := HNQ.out.1; unfold wrap64; omega
          have hD := T.out.below (below_drew (Below.refl _ _))
          have d0 := hD.own.c2
          have d1 := Z4.out.low hD.low
          have d2 := blk_below Z6.out hD.low
          have d3 := below_then L1.out L1.out.size hD.low
          clear hD
          refine start_ (n := 10) (S := fun w' => w'.cell? ⟨g8, 2, none⟩ = some (.int .i64 x) ∧ At w' g4 Fr.zero none 0 ∧ w'.heap[g6]? = some (.cells #[.int .i64 0, .int .i64 0] 35 (0, 0)) ∧ Below w.heap.size w w') (ds := [9]) #[false, false, false, false, false, false, false, false, false, false] (by kernel_rfl) rfl rfl ⟨d0, d1, d2, d3⟩ (fun hHeld => ?_)
          refine pure_ (i := 0) (N := some 72) (v := ?_) (a' := ?_) #[true, false, false, false, false, false, false, false, false, false] rfl rfl (by kernel_rfl) (fun _ _ _ h => h) (Or.inl ⟨by rfl, ?_⟩) ?_ ?_
          rotate_left
          · intro w'
            go_simp
            with_reducible rfl
          rotate_left
          · simp only [Act.put, List.setIfInBounds_toArray, List.set_cons_zero, List.set_cons_succ, i64_w, i32_w]
            rfl
          refine pure_ (i := 1) (N := some 73) (v := ?_) (a' := ?_) #[true, true, false, false, false, false, false, false, false, false] rfl rfl (by kernel_rfl) (fun _ _ _ h => h) (Or.inl ⟨by rfl, ?_⟩) ?_ ?_
          rotate_left
          · intro w'
            go_simp
            with_reducible rfl
          rotate_left
          · simp only [Act.put, List.setIfInBounds_toArray, List.set_cons_zero, List.set_cons_succ, i64_w, i32_w]
            rfl
          refine pure_ (i := 2) (N := some 74) (v := ?_) (a' := ?_) #[true, true, true, false, false, false, false, false, false, false] rfl rfl (by kernel_rfl) (fun _ _ _ h => h) (Or.inl ⟨by rfl, ?_⟩) ?_ ?_
          rotate_left
          · intro w'
            go_simp
            with_reducible rfl
          rotate_left
          · simp only [Act.put, List.setIfInBounds_toArray, List.set_cons_zero, List.set_cons_succ, i64_w, i32_w]
            rfl
          refine pure_ (i := 3) (N := some 75) (v := ?_) (a' := ?_) #[true, true, true, true, false, false, false, false, false, false] rfl rfl (by kernel_rfl) (fun _ _ _ h => h) (Or.inl ⟨by rfl, ?_⟩) ?_ ?_
          rotate_left
          · intro w'
            go_simp
            with_reducible rfl
          rotate_left
          · simp only [Act.put, List.setIfInBounds_toArray, List.set_cons_zero, List.set_cons_succ, i64_w, i32_w]
            rfl
          refine pure_ (i := 4) (N := some 76) (v := ?_) (a' := ?_) #[true, true, true, true, true, false, false, false, false, false] rfl rfl (by kernel_rfl) (fun _ _ _ h => h) (Or.inl ⟨by rfl, ?_⟩) ?_ ?_
          rotate_left
          · intro w'
            go_simp
            with_reducible rfl
          rotate_left
          · simp only [Act.put, List.setIfInBounds_toArray, List.set_cons_zero, List.set_cons_succ, i64_w, i32_w]
            rfl
          refine take_ (i := 5) (N := some 77) (v := ?_) (a' := ?_) #[true, true, true, true, true, true, false, false, false, false] rfl rfl (by kernel_rfl) (fun _ _ _ h => h) (Or.inl ⟨by rfl, ?_⟩) hHeld ?_ ?_
          rotate_left
          · rintro w' ⟨s0, s1, s2, s3⟩
            go_simp
            with_reducible rfl
          rotate_left
          · simp only [Act.put, List.setIfInBounds_toArray, List.set_cons_zero, List.set_cons_succ, i64_w, i32_w]
            rfl
          refine pure_ (i := 6) (N := some 78) (v := ?_) (a' := ?_) #[true, true, true, true, true, true, true, false, false, false] rfl rfl (by kernel_rfl) (fun _ _ _ h => h) (Or.inl ⟨by rfl, ?_⟩) ?_ ?_
          rotate_left
          · intro w'
            go_simp
            with_reducible rfl
          rotate_left
          · simp only [Act.put, List.setIfInBounds_toArray, List.set_cons_zero, List.set_cons_succ, i64_w, i32_w]
            rfl
          refine one_ (i := 7) (N := none) #[true, true, true, true, true, true, true, true, false, false] rfl rfl (by kernel_rfl) (by decide) (fun K hK => ?_)
          refine skip_row 24 _ _ rfl (by rfl) rfl g4 #[.int .i64 0, .int .i64 0, .int .i64 0, .string ⟨#[]⟩, .int .i64 0, .int .i64 0, .bool false, .int .i64 0, .int .i64 0, .int .i64 0, .slice none 0 0] rfl rfl 24 _ hHeld.2.1 (by kernel_rfl) (by kernel_rfl) (by kernel_rfl) ?_
          obtain ⟨W8, e8, q4, qo, qb⟩ := row_store _ g4 #[.int .i64 0, .int .i64 0, .int .i64 0, .string ⟨#[]⟩, .int .i64 0, .int .i64 0, .bool false, .int .i64 0, .int .i64 0, .int .i64 0, .slice none 0 0] 24 _ hHeld.2.1
          rw [e8]
          refine hK.out _ _ ⟨(cell_same (qo g8 (by have := HG8.out; have := HG6.out; omega)) 2).trans hHeld.1, q4, (qo g6 (by have := HG6.out; omega)).trans hHeld.2.2.1, qb _ _ hHeld.2.2.2 (by have := HG4.out; omega)⟩ (fun hHeld => ?_)
          clear hK K
          refine pure_ (i := 8) (N := some 5) (v := ?_) (a' := ?_) #[true, true, true, true, true, true, true, true, true, false] rfl rfl (by kernel_rfl) (fun _ _ _ h => h) (Or.inl ⟨by rfl, ?_⟩) ?_ ?_
          rotate_left
          · intro w'
            go_simp
            with_reducible rfl
          rotate_left
          · simp only [Act.put, List.setIfInBounds_toArray, List.set_cons_zero, List.set_cons_succ, i64_w, i32_w]
            rfl
          refine last_ (i := 9) (N := none) #[true, true, true, true, true, true, true, true, true, true] rfl rfl (by kernel_rfl) (by decide) (fun K hK => ?_)
          refine skip_row 35 _ _ rfl (by rfl) rfl g6 #[.int .i64 6, .int .i64 x] rfl rfl 35 _ hHeld.2.2.1 (by kernel_rfl) (by kernel_rfl) (by kernel_rfl) ?_
          obtain ⟨W9, e9, p6, po, pb⟩ := row_store _ g6 #[.int .i64 6, .int .i64 x] 35 _ hHeld.2.2.1
          rw [e9]
          have R6 := Aside0.mk p6
          have R4 := Aside0.mk ((po _ (by have := HG6.out; omega)).trans hHeld.2.1)
          have RL := Aside0.mk (pb _ _ hHeld.2.2.2 (by have := HG4.out; have := HG6.out; omega))
          refine hK.out _ _ ?_
          clear hK K
          refine done_ (by kernel_rfl) ?_
          clear hHeld
          go_wp2_with fail
          exact bodyPost_ret (res21 _ _ g4 g6 Fr.zero none 0 (9 + (p.size : Int)) 6 x rfl rfl rfl R4.out R6.out) rfl (by rw [HV.out]; exact RdPost.zero _ 6 _ rfl RL.out)
        · have t2b : (t == 2) = false := beq_eq_false_iff_ne.mpr t2
          have HV : rdF b most = .bad 6 := by rw [HREF.out.2, if_neg (by rw [HY.out]; decide), if_pos HYL.out]; exact if_neg t2
          clear t2
          have Y4 := Aside0.mk (Z4.out.low T.out.low)
          have Y6 := Aside0.mk (blk_below Z6.out T.out.low)
          have L3 := Aside0.mk (below_then L1.out L1.out.size T.out.low)
          go_wp2_with (first
              | (refine wpList_store_row rfl 24 _ _ rfl g4 (#[.int .i64 0, .int .i64 0, .int .i64 0, .string ⟨#[]⟩, .int .i64 0, .int .i64 0, .bool false, .int .i64 0, .int .i64 0, .int .i64 0, .slice none 0 0]) rfl rfl 24 _ Y4.out (by kernel_rfl) (by kernel_rfl) (by kernel_rfl) ?_; obtain ⟨W8, e8, q4, qo, qb⟩ := row_store _ g4 (#[.int .i64 0, .int .i64 0, .int .i64 0, .string ⟨#[]⟩, .int .i64 0, .int .i64 0, .bool false, .int .i64 0, .int .i64 0, .int .i64 0, .slice none 0 0]) 24 _ Y4.out; rw [e8]; have Q4 := Aside0.mk q4; have Q6 := Aside0.mk ((qo _ (by have := HG6.out; omega)).trans Y6.out); have QO := Aside0.mk qo; have QL := Aside0.mk (qb _ _ L3.out (by have := HG4.out; omega)); clear q4 qo qb e8)
              | (refine wpList_store_row rfl 35 _ _ rfl g6 #[.int .i64 6, .int .i64 0] rfl rfl 35 _ Q6.out (by kernel_rfl) (by kernel_rfl) (by kernel_rfl) ?_; obtain ⟨W9, e9, p6, po, pb⟩ := row_store _ g6 #[.int .i64 6, .int .i64 0] 35 _ Q6.out; rw [e9]; have R6 := Aside0.mk p6; have R4 := Aside0.mk ((po _ (by have := HG6.out; omega)).trans Q4.out); have PO := Aside0.mk po; have RL := Aside0.mk (pb _ _ QL.out (by have := HG4.out; have := HG6.out; omega)); clear p6 po pb e9))
          exact bodyPost_ret (res21 _ _ g4 g6 Fr.zero none 0 0 6 0 rfl rfl rfl R4.out R6.out) rfl (by rw [← HR.out, HV]; exact RdPost.zero 0 6 0 rfl RL.out)
      have HV : Aside0 (rdRef (⟨t, fl, x, ByteArray.empty, 0, 0, false, 0, 0, 0, []⟩ : Fr) p.size p = R) := ⟨by rw [← HR.out, HREF.out.2, if_neg (by rw [HY.out]; decide), if_neg (by rw [HYL.out]; decide)]⟩
      have HRD : Aside0 (∀ w, Calls Tryd.prog 66 #[.agg #[.int .i64 t, .int .i64 fl, .int .i64 x, .string ⟨#[]⟩, .int .i64 0, .int .i64 0, .bool false, .int .i64 0, .int .i64 0, .int .i64 0, .slice none 0 0], .string p] w fun e w' => RdPost w R e w') := ⟨fun w => by
        rw [← HV.out]
        exact read66_calls (⟨t, fl, x, ByteArray.empty, 0, 0, false, 0, 0, 0, []⟩ : Fr) p w HHD.out rfl (by have h1 := HREF.out.1; have h2 := HNQ.out.1; omega) HYL.out⟩
      go_wp2_with (first
        | (refine wpList_load_row rfl 24 _ rfl g8 rfl 24 #[.int .i64 t, .int .i64 fl, .int .i64 x, .string ⟨#[]⟩, .int .i64 0, .int .i64 0, .bool false, .int .i64 0, .int .i64 0, .int .i64 0, .slice none 0 0] (0, 0) _ T.out.own Tryd.underlying24 (by rfl) (by kernel_rfl) ?_)
        | (go_at_call 66; refine (HRD.out _).mono ?_; rintro e w13 ⟨A, c, rfl, hr, hb⟩; have RR := Aside0.mk hr; have BB := Aside0.mk hb; have Y4 := Aside0.mk (Z4.out.low (T.out.below hb).low); have Y6 := Aside0.mk (blk_below Z6.out (T.out.below hb).low); have L3 := Aside0.mk (below_then L1.out L1.out.size (T.out.below hb).low); clear hb hr)
        | (refine wpList_store_row rfl 24 _ _ rfl g4 (R.fr.cells A c) rfl rfl 24 _ Y4.out (by kernel_rfl) (by kernel_rfl) (by kernel_rfl) ?_; obtain ⟨W8, e8, q4, qo, qb⟩ := row_store _ g4 (R.fr.cells A c) 24 _ Y4.out; rw [e8]; have Q4 := Aside0.mk q4; have Q6 := Aside0.mk ((qo _ (by have := HG6.out; omega)).trans Y6.out); have QO := Aside0.mk qo; have QL := Aside0.mk (qb _ _ L3.out (by have := HG4.out; omega)); clear q4 qo qb e8)
          | (refine wpList_store_row rfl 35 _ _ rfl g6 #[.int .i64 R.code, .int .i64 R.st] rfl rfl 35 _ Q6.out (by kernel_rfl) (by kernel_rfl) (by kernel_rfl) ?_; obtain ⟨W9, e9, p6, po, pb⟩ := row_store _ g6 #[.int .i64 R.code, .int .i64 R.st] 35 _ Q6.out; rw [e9]; have R6 := Aside0.mk p6; have R4 := Aside0.mk ((po _ (by have := HG6.out; omega)).trans Q4.out); have PO := Aside0.mk po; have RL := Aside0.mk (pb _ _ QL.out (by have := HG4.out; have := HG6.out; omega)); clear p6 po pb e9))
      exact bodyPost_ret (res21 _ _ g4 g6 R.fr A c R.no R.code R.st rfl rfl rfl R4.out R6.out) rfl (rd_again rfl RR.out (below_then L1.out L1.out.size T.out.low).size (fun k hk => (PO.out k (by have h1 := blk_lt T.out.own; have h2 := HG8.out; omega)).trans (QO.out k (by have h1 := blk_lt T.out.own; have h2 := HG8.out; have h3 := HG6.out; omega))) RL.out)
end Go.Proofs.YtoffhlbdfhhhjaaDoor.Fr
