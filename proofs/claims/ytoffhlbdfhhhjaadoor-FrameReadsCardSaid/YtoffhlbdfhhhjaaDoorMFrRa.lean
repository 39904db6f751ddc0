/- The document's Read: its small functions, and what it makes of a frame. No condition. -/
import Derived.Test.YtoffhlbdfhhhjaaDoorMFp5
import Derived.Test.YtoffhlbdfhhhjaaDoorMFp6
namespace Go.Proofs.YtoffhlbdfhhhjaaDoor.Fr
open Go Go.RowKit Go.Proofs.YtoffhlbdfhhhjaaDoorW.PrintWords Go.Proofs.YtoffhlbdfhhhjaaDoorW.PrintLast Go.Proofs.YtoffhlbdfhhhjaaDoorW.PrintMore Go.Proofs.YtoffhlbdfhhhjaaDoor.QL
set_option linter.unusedSimpArgs false
set_option linter.unusedVariables false
set_option maxHeartbeats 4000000
set_option maxRecDepth 100000
theorem drawn_below {w w' : World} (h : Drawn0 w w') : Below w.heap.size w w' := by
  obtain ⟨n, rfl⟩ := h.out
  exact pw_below_drewN (Below.refl _ _) n
theorem has_f (fl : Int) (h0 : 0 ≤ fl) (h1 : fl ≤ 255) : heraldref06_has.f fl 1 = some (has fl 1) ∧ heraldref06_has.f fl 8 = some (has fl 8) ∧ heraldref06_has.f fl 32 = some (has fl 32) := by
  have h : ∀ n : Fin 256, heraldref06_has.f (n.val : Int) 1 = some (has (n.val : Int) 1) ∧ heraldref06_has.f (n.val : Int) 8 = some (has (n.val : Int) 8) ∧ heraldref06_has.f (n.val : Int) 32 = some (has (n.val : Int) 32) := by decide +kernel
  obtain ⟨n, rfl⟩ : ∃ n : Nat, fl = n := ⟨fl.toNat, by omega⟩
  exact h ⟨n, by omega⟩
/-- A frame's head is a head that Read makes. -/
structure Hd (f : Fr) : Prop where
  ty : 0 ≤ f.ty ∧ f.ty ≤ 255
  fl : 0 ≤ f.fl ∧ f.fl ≤ 255
  mask : Go.bits .and .i64 f.fl (kFl f.ty) = f.fl
theorem Hd.no8 {f : Fr} (h : Hd f) (h0 : f.ty ≠ 0) (h1 : f.ty ≠ 1) (h5 : f.ty ≠ 5) (h10 : f.ty < 10) : has f.fl 8 = false := by
  cases hb : has f.fl 8
  · rfl
  · exfalso
    have h8 := kFl8 f.ty f.fl h.ty.1 h.fl.1 h.fl.2 (by rw [h.mask]; exact hb)
    have hc : f.ty = 2 ∨ f.ty = 3 ∨ f.ty = 4 ∨ f.ty = 6 ∨ f.ty = 7 ∨ f.ty = 8 ∨ f.ty = 9 := by have := h.ty; omega
    rcases hc with e | e | e | e | e | e | e <;> rw [e] at h8 <;> exact absurd h8 (by decide)
theorem Hd.pad0 {f : Fr} (h : Hd f) (h0 : f.ty ≠ 0) (h1 : f.ty ≠ 1) (h5 : f.ty ≠ 5) : padB f = false := by
  unfold padB
  by_cases h10 : f.ty < 10
  · rw [h.no8 h0 h1 h5 h10, Bool.and_false]
  · rw [decide_eq_false h10]
    rfl
theorem pad_has {f : Fr} (h : f.ty = 0 ∨ f.ty = 1 ∨ f.ty = 5) : padB f = has f.fl 8 := by
  unfold padB
  rw [decide_eq_true (show f.ty < 10 by omega)]
  rfl
theorem mayPad_f (f : Fr) (h : Hd f) : heraldref06_mayPad.f f.ty f.fl = some (padB f) := by
  have hh := has_f f.fl h.fl.1 h.fl.2
  unfold heraldref06_mayPad.f
  by_cases h0 : f.ty = 0
  · rw [if_pos h0, hh.2.1, pad_has (.inl h0)]
    rfl
  · rw [if_neg h0]
    by_cases h1 : f.ty = 1
    · rw [if_pos h1, hh.2.1, pad_has (.inr (.inl h1))]
      rfl
    · rw [if_neg h1]
      by_cases h5 : f.ty = 5
      · rw [if_pos h5, hh.2.1, pad_has (.inr (.inr h5))]
        rfl
      · rw [if_neg h5, h.pad0 h0 h1 h5]
theorem mayPad_calls (f : Fr) (x : Bool) (w : World) (h : Hd f) (hx : padB f = x) : Calls Tryd.prog 95 #[.int .i64 f.ty, .int .i64 f.fl] w fun e w' => e = .returned (.bool x) ∧ Below w.heap.size w w' :=
  (heraldref06_mayPad.calls f.ty f.fl x w (by rw [mayPad_f f h, hx])).mono fun _ _ r => ⟨r.1, drawn_below r.2⟩
theorem streamR_f (t st : Int) (h0 : 0 ≤ t) : heraldref06_streamRight.f 1 t st = some (stB t st) := by
  by_cases h10 : t < 10
  · obtain rfl | rfl | rfl | rfl | rfl | rfl | rfl | rfl | rfl | rfl : t = 0 ∨ t = 1 ∨ t = 2 ∨ t = 3 ∨ t = 4 ∨ t = 5 ∨ t = 6 ∨ t = 7 ∨ t = 8 ∨ t = 9 := by omega
    all_goals rfl
  · unfold heraldref06_streamRight.f heraldref06_streamRight.j0 stB kSt
    dsimp only
    rw [if_neg (by omega), if_neg (by omega), if_neg h10]
    have e7 : ¬ (t == 7) = true := by simp; omega
    rw [if_neg e7, if_neg (by omega), if_neg (by omega), if_neg (by omega), if_neg (by omega), if_neg (by omega), if_neg (by omega)]
    rfl
theorem streamR_calls (t st : Int) (x : Bool) (w : World) (h0 : 0 ≤ t) (hx : stB t st = x) : Calls Tryd.prog 64 #[.int .i64 t, .int .i64 st] w fun e w' => e = .returned (.bool x) ∧ Below w.heap.size w w' :=
  (heraldref06_streamRight.calls 1 t st x w (by rw [streamR_f t st h0, hx])).mono fun _ _ r => ⟨r.1, drawn_below r.2⟩
theorem has8_kFl (f : Fr) (h : f.ty = 0 ∨ f.ty = 1 ∨ f.ty = 5) : has (kFl f.ty) 8 = true := by
  rcases h with e | e | e <;> rw [e] <;> decide
theorem aheadI_not (f : Fr) (h0 : f.ty ≠ 0) (h1 : f.ty ≠ 1) (h5 : f.ty ≠ 5) (ht : 0 ≤ f.ty) : aheadI f = 0 := by
  unfold aheadI
  rw [if_neg, if_neg (fun h => h1 h.1), if_neg h5]
  · rfl
  · rintro ⟨_, h8, h10⟩
    have hc : f.ty = 2 ∨ f.ty = 3 ∨ f.ty = 4 ∨ f.ty = 6 ∨ f.ty = 7 ∨ f.ty = 8 ∨ f.ty = 9 := by omega
    rcases hc with e | e | e | e | e | e | e <;> rw [e] at h8 <;> exact absurd h8 (by decide)
theorem aheadI_is (f : Fr) (h : Hd f) : aheadI f = (if padB f = true then 1 else 0) + aheadR f := by
  by_cases hc : f.ty = 0 ∨ f.ty = 1 ∨ f.ty = 5
  · rw [pad_has hc]
    unfold aheadI aheadR
    by_cases h8 : has f.fl 8 = true
    · rw [if_pos ⟨h8, has8_kFl f hc, by omega⟩, if_pos h8]
    · rw [if_neg (fun q => h8 q.1), if_neg h8]
  · rw [h.pad0 (by omega) (by omega) (by omega), aheadI_not f (by omega) (by omega) (by omega) h.ty.1]
    unfold aheadR
    rw [if_neg (show ¬ (f.ty = 1 ∧ has f.fl 32 = true) from fun q => hc (.inr (.inl q.1))), if_neg (show ¬ f.ty = 5 from fun q => hc (.inr (.inr q))), if_neg (by decide)]
    rfl
theorem aheadD_f (f : Fr) (h : Hd f) : heraldref06_ahead.f 2 f.ty f.fl = some (aheadI f) := by
  have hh := has_f f.fl h.fl.1 h.fl.2
  have w0 : ∀ x : Int, 0 ≤ x → x ≤ 100 → wrap64 x = x := fun x a b => by unfold wrap64; omega
  have e : ∀ x : Int, 0 ≤ x → x ≤ 1 → heraldref06_ahead.j0 2 f.ty f.fl x = some (x + aheadR f) := by
    intro x a b
    unfold heraldref06_ahead.j0 aheadR
    dsimp only
    by_cases h1 : f.ty = 1
    · rw [if_pos h1, hh.2.2]
      show heraldref06_ahead.j1 1 f.ty x (has f.fl 32) = _
      unfold heraldref06_ahead.j1
      dsimp only
      cases h32 : has f.fl 32
      · rw [if_neg (by decide), if_neg (by omega), if_neg (by rintro ⟨_, q⟩; cases q), if_neg (by omega)]
        simp
      · rw [if_pos rfl, if_pos ⟨h1, rfl⟩, w0 _ (by omega) (by omega)]
    · rw [if_neg h1, if_neg (fun q => h1 q.1)]
      unfold heraldref06_ahead.j1
      dsimp only
      rw [if_neg (by decide)]
      by_cases h5 : f.ty = 5
      · rw [if_pos h5, if_pos h5, w0 _ (by omega) (by omega)]
      · rw [if_neg h5, if_neg h5]
        simp
  rw [aheadI_is f h]
  unfold heraldref06_ahead.f
  rw [mayPad_f f h]
  show (if padB f = true then heraldref06_ahead.j0 2 f.ty f.fl 1 else heraldref06_ahead.j0 2 f.ty f.fl 0) = _
  split
  · exact e 1 (by decide) (by decide)
  · exact e 0 (by decide) (by decide)
theorem aheadD_calls (f : Fr) (x : Int) (w : World) (h : Hd f) (hx : aheadI f = x) : Calls Tryd.prog 100 #[.int .i64 f.ty, .int .i64 f.fl] w fun e w' => e = .returned (.int .i64 x) ∧ Below w.heap.size w w' :=
  (heraldref06_ahead.calls 2 f.ty f.fl x w (by rw [aheadD_f f h, hx])).mono fun _ _ r => ⟨r.1, drawn_below r.2⟩
/-- May the payload have this length? -/
def lenR (f : Fr) (m : Int) : Bool :=
  if f.ty = 0 ∨ f.ty = 1 ∨ f.ty = 5 then decide (aheadI f ≤ m)
  else if f.ty = 2 then m == 5
  else if f.ty = 3 ∨ f.ty = 8 then m == 4
  else if f.ty = 4 then (m % 6 == 0) && (!has f.fl 1 || m == 0)
  else if f.ty = 6 then m == 8
  else if f.ty = 7 then decide (8 ≤ m)
  else true
theorem lenR_f (f : Fr) (m : Int) (h : Hd f) (hm : 0 ≤ m) : heraldref06_lengthRight.f 4 f.ty f.fl m = some (lenR f m) := by
  have hh := has_f f.fl h.fl.1 h.fl.2
  have ha := aheadD_f f h
  have hle := heraldref06_ahead.mono f.ty f.fl 2 _ ha
  have j0t : ∀ x : Bool, x = true → heraldref06_lengthRight.j0 4 f.ty f.fl m f.ty x = some (decide (aheadI f ≤ m)) := by
    intro x hx
    unfold heraldref06_lengthRight.j0
    dsimp only
    rw [if_pos hx, hle]
    rfl
  have j1t : ∀ x : Bool, x = true → heraldref06_lengthRight.j1 3 f.fl m f.ty x = some (m == 4) := by
    intro x hx
    unfold heraldref06_lengthRight.j1
    dsimp only
    rw [if_pos hx]
  have b : ∀ a c : Int, a = c → (a == c) = true := fun a c e => beq_iff_eq.mpr e
  have nb : ∀ a c : Int, a ≠ c → ¬ (a == c) = true := fun a c e q => e (beq_iff_eq.mp q)
  unfold heraldref06_lengthRight.f lenR
  by_cases h0 : f.ty = 0
  · rw [if_pos h0, if_pos (.inl h0)]
    exact j0t _ (b _ _ h0)
  rw [if_neg h0]
  by_cases h1 : f.ty = 1
  · rw [if_pos h1, if_pos (.inr (.inl h1))]
    exact j0t _ (b _ _ h1)
  rw [if_neg h1]
  by_cases h5 : f.ty = 5
  · rw [if_pos (.inr (.inr h5))]
    exact j0t _ (b _ _ h5)
  rw [if_neg (show ¬ (f.ty = 0 ∨ f.ty = 1 ∨ f.ty = 5) by omega)]
  unfold heraldref06_lengthRight.j0
  dsimp only
  rw [if_neg (nb _ _ h5)]
  by_cases h2 : f.ty = 2
  · rw [if_pos h2, if_pos h2]
  rw [if_neg h2, if_neg h2]
  by_cases h3 : f.ty = 3
  · rw [if_pos h3, if_pos (.inl h3)]
    exact j1t _ (b _ _ h3)
  rw [if_neg h3]
  by_cases h8 : f.ty = 8
  · rw [if_pos (.inr h8)]
    exact j1t _ (b _ _ h8)
  rw [if_neg (show ¬ (f.ty = 3 ∨ f.ty = 8) by omega)]
  unfold heraldref06_lengthRight.j1
  dsimp only
  rw [if_neg (nb _ _ h8)]
  by_cases h4 : f.ty = 4
  · rw [if_pos h4, if_pos h4, Int.tmod_eq_emod_of_nonneg hm]
    by_cases h6 : m % 6 = 0
    · rw [if_pos h6, hh.1, b _ _ h6]
      show (if has f.fl 1 = true then some (m == 0) else some true) = _
      cases has f.fl 1 <;> simp
    · rw [if_neg h6]
      have : (m % 6 == 0) = false := beq_eq_false_iff_ne.mpr h6
      rw [this]
      rfl
  rw [if_neg h4, if_neg h4]
  by_cases h6 : f.ty = 6
  · rw [if_pos h6, if_pos h6]
  rw [if_neg h6, if_neg h6]
  by_cases h7 : f.ty = 7
  · rw [if_pos h7, if_pos h7]
  rw [if_neg h7, if_neg h7]
theorem lenR_calls (f : Fr) (m : Int) (x : Bool) (w : World) (h : Hd f) (hm : 0 ≤ m) (hx : lenR f m = x) : Calls Tryd.prog 65 #[.int .i64 f.ty, .int .i64 f.fl, .int .i64 m] w fun e w' => e = .returned (.bool x) ∧ Below w.heap.size w w' :=
  (heraldref06_lengthRight.calls 4 f.ty f.fl m x w (by rw [lenR_f f m h hm, hx])).mono fun _ _ r => ⟨r.1, drawn_below r.2⟩
/-- The rest of the payload is Data. -/
def t5 (f : Fr) (p : ByteArray) : Fr := if f.ty = 4 then { f with ps := pars (p.size / 6) p.data.toList, da := ByteArray.empty } else { f with da := p }
def t4 (f : Fr) (p : ByteArray) : Fr := if f.ty = 3 ∨ f.ty = 7 then t5 { f with co := num (p.extract 0 4) } (p.extract 4 p.size) else t5 f p
def t3 (f : Fr) (p : ByteArray) : Fr := if f.ty = 5 ∨ f.ty = 7 ∨ f.ty = 8 then t4 { f with la := num (p.extract 0 4) % 2147483648 } (p.extract 4 p.size) else t4 f p
/-- What the document's read makes of a frame and its payload. -/
def t2 (f : Fr) (p : ByteArray) : Fr := if (f.ty == 2 || (f.ty == 1 && has f.fl 32)) = true then t3 (wtF f p) (p.extract 5 p.size) else t3 f p
/-- The sizes that it asks for. -/
structure Sz2 (f : Fr) (p : ByteArray) : Prop where
  w : (f.ty == 2 || (f.ty == 1 && has f.fl 32)) = true → 5 ≤ p.size
  l : f.ty = 5 ∨ f.ty = 8 ∨ f.ty = 3 → 4 ≤ p.size
  g : f.ty = 7 → 8 ≤ p.size
  s : f.ty = 4 → p.size % 6 = 0
theorem ext_zero (p : ByteArray) (h : p.size = 0) : p = ByteArray.empty := by
  apply ByteArray.ext
  exact Array.eq_empty_of_size_eq_zero h
theorem ext_end (p : ByteArray) (k : Nat) (h : p.size = k) : p.extract k p.size = ByteArray.empty := ext_zero _ (by rw [ByteArray.size_extract]; omega)
theorem ext_all (p : ByteArray) (k : Nat) (h : p.size = k) : p.extract 0 k = p := by
  subst h
  apply ByteArray.ext
  rw [ByteArray.data_extract]
  exact Array.extract_size
theorem ext_ext (p : ByteArray) (h : 8 ≤ p.size) : (p.extract 4 p.size).extract 0 4 = p.extract 4 8 ∧ (p.extract 4 p.size).extract 4 (p.extract 4 p.size).size = p.extract 8 p.size := by
  constructor
  · rw [ByteArray.extract_extract]
    congr 1
    omega
  · rw [ByteArray.extract_extract, ByteArray.size_extract]
    congr 1
    omega
/-- Read as the document says it. -/
def rdRef (f : Fr) (m : Int) (p : ByteArray) : Rd :=
  if padB f = true ∧ m - aheadI f < bt p 0 then .bad 1
  else ⟨t2 (if padB f = true then { f with pad := bt p 0 } else f) (if padB f = true then p.extract 1 (m - bt p 0).toNat else p), 9 + m, 0, 0⟩
theorem takes_t2 (f : Fr) (p : ByteArray) (h2 : f.ty = 2 → p.size = 5) (h3 : f.ty = 3 ∨ f.ty = 8 → p.size = 4) (h4 : f.ty = 4 → p.size % 6 = 0 ∧ ¬ (has f.fl 1 = true ∧ 0 < p.size)) (h6 : f.ty = 6 → p.size = 8) (h7 : f.ty = 7 → 8 ≤ p.size) (hd : f.da = ByteArray.empty) : takes f p = some (t2 f p) := by
  unfold takes t2
  by_cases t1 : f.ty = 1
  · rw [if_pos t1, t1]
    unfold headersF
    have e (f' : Fr) (p' : ByteArray) (h : f'.ty = 1) : t3 f' p' = { f' with da := p' } := by
      unfold t3 t4 t5
      rw [if_neg (by omega), if_neg (by omega), if_neg (by omega)]
    cases hh : has f.fl 32
    · rw [if_neg (by decide), if_neg (by decide), e f p t1]
    · rw [if_pos rfl, if_pos (by decide), e (wtF f p) _ t1]
  rw [if_neg t1]
  by_cases t2 : f.ty = 2
  · have h5 := h2 t2
    rw [if_pos t2, if_pos h5, if_pos (show (f.ty == 2 || (f.ty == 1 && has f.fl 32)) = true by rw [t2]; rfl)]
    unfold t3 t4 t5
    have q : (wtF f p).ty = 2 := t2
    rw [if_neg (by omega), if_neg (by omega), if_neg (by omega)]
    have e : p.extract 5 p.size = ByteArray.empty := ext_end p 5 h5
    rw [e]
    congr 1
    unfold wtF
    rw [hd]
  have hw : ¬ (f.ty == 2 || (f.ty == 1 && has f.fl 32)) = true := by
    rw [beq_eq_false_iff_ne.mpr t1, beq_eq_false_iff_ne.mpr t2]
    simp
  rw [if_neg t2, if_neg hw]
  unfold t3
  by_cases t3 : f.ty = 3
  · have h5 := h3 (.inl t3)
    rw [if_pos t3, if_pos h5, if_neg (by omega)]
    unfold t4 t5
    rw [if_pos (.inl t3), if_neg (by show ¬ f.ty = 4; omega), ext_end p 4 h5, ext_all p 4 h5]
    congr 1
    rw [← hd]
  rw [if_neg t3]
  by_cases t4' : f.ty = 4
  · have h5 := h4 t4'
    rw [if_pos t4', if_pos h5, if_neg (by omega)]
    unfold t4 t5
    rw [if_neg (by omega), if_pos t4']
    congr 1
    rw [← hd]
  rw [if_neg t4']
  by_cases t5' : f.ty = 5
  · rw [if_pos t5', if_pos (.inl t5')]
    unfold t4 t5
    rw [if_neg (by show ¬ (f.ty = 3 ∨ f.ty = 7); omega), if_neg (by show ¬ f.ty = 4; omega)]
    rfl
  rw [if_neg t5']
  by_cases t6 : f.ty = 6
  · have h5 := h6 t6
    rw [if_pos t6, if_pos h5, if_neg (by omega)]
    unfold t4 t5
    rw [if_neg (by omega), if_neg (by omega)]
  rw [if_neg t6]
  by_cases t7 : f.ty = 7
  · have h5 := h7 t7
    have hx := ext_ext p h5
    rw [if_pos t7, if_pos h5, if_pos (.inr (.inl t7))]
    unfold t4 t5
    rw [if_pos (by show f.ty = 3 ∨ f.ty = 7; omega), if_neg (by show ¬ f.ty = 4; omega), hx.1, hx.2]
    rfl
  rw [if_neg t7]
  by_cases t8 : f.ty = 8
  · have h5 := h3 (.inr t8)
    rw [if_pos t8, if_pos h5, if_pos (.inr (.inr t8))]
    unfold t4 t5
    rw [if_neg (by show ¬ (f.ty = 3 ∨ f.ty = 7); omega), if_neg (by show ¬ f.ty = 4; omega), ext_end p 4 h5, ext_all p 4 h5]
    congr 1
    rw [← hd]
  rw [if_neg t8, if_neg (by omega)]
  unfold t4 t5
  rw [if_neg (by omega), if_neg (by omega)]
/-- The two readings agree. -/
theorem rdRest_ref (f : Fr) (h : Hd f) (hd : f.da = ByteArray.empty) (m : Nat) (p : ByteArray) (hp : p.size = m) :
    rdRest f m p = if stB f.ty f.st = false then .bad 1 else if lenR f m = false then (if f.ty = 2 then ⟨Fr.zero, 9 + m, 6, f.st⟩ else .bad 6) else rdRef f m p := by
  unfold rdRest
  by_cases hs : stB f.ty f.st = false
  · rw [if_pos hs, if_pos hs]
  rw [if_neg hs, if_neg hs]
  unfold rdRef
  by_cases hc : f.ty = 0 ∨ f.ty = 1 ∨ f.ty = 5
  · have hl : lenR f m = decide (aheadI f ≤ (m : Int)) := by unfold lenR; rw [if_pos hc]
    rw [hl]
    by_cases h4 : (m : Int) < aheadI f
    · rw [if_pos h4, decide_eq_false (by omega), if_pos rfl, if_neg (by omega)]
    · rw [if_neg h4, decide_eq_true (by omega)]
      by_cases h5 : padB f = true ∧ (m : Int) - aheadI f < bt p 0
      · rw [if_pos h5, if_pos h5]
        rfl
      · rw [if_neg h5, if_neg h5]
        have e : ∀ (f' : Fr) (p' : ByteArray), f'.ty = f.ty → f'.da = ByteArray.empty → takes f' p' = some (t2 f' p') := fun f' p' q qd => takes_t2 f' p' (fun _ => by omega) (fun _ => by omega) (fun _ => by omega) (fun _ => by omega) (fun _ => by omega) qd
        rw [e _ _ (by split <;> rfl) (by split <;> exact hd)]
        rfl
  · have ha := aheadI_not f (by omega) (by omega) (by omega) h.ty.1
    have hpd := h.pad0 (by omega) (by omega) (by omega)
    have np : ¬ padB f = true := by rw [hpd]; decide
    have np2 : ¬ (padB f = true ∧ (m : Int) - aheadI f < bt p 0) := fun q => np q.1
    rw [if_neg (show ¬ (m : Int) < aheadI f by rw [ha]; omega), if_neg np2, if_neg np2, if_neg np, if_neg np]
    unfold lenR
    rw [if_neg hc]
    have tk := takes_t2 f p
    by_cases t2' : f.ty = 2
    · rw [if_pos t2', if_pos t2']
      by_cases h5 : p.size = 5
      · rw [tk (fun _ => h5) (fun _ => by omega) (fun _ => by omega) (fun _ => by omega) (fun _ => by omega) hd]
        have : ((m : Int) == 5) = true := beq_iff_eq.mpr (by omega)
        rw [this]
        rfl
      · have e : takes f p = none := by unfold takes; rw [if_neg (by omega), if_pos t2', if_neg h5]
        have : ((m : Int) == 5) = false := beq_eq_false_iff_ne.mpr (by omega)
        rw [e, this]
        rfl
    rw [if_neg t2', if_neg t2']
    by_cases t38 : f.ty = 3 ∨ f.ty = 8
    · rw [if_pos t38]
      by_cases h5 : p.size = 4
      · rw [tk (fun _ => by omega) (fun _ => h5) (fun _ => by omega) (fun _ => by omega) (fun _ => by omega) hd]
        have : ((m : Int) == 4) = true := beq_iff_eq.mpr (by omega)
        rw [this]
        rfl
      · have e : takes f p = none := by
          unfold takes
          rw [if_neg (show ¬ f.ty = 1 by omega), if_neg t2']
          by_cases t3' : f.ty = 3
          · rw [if_pos t3', if_neg h5]
          · rw [if_neg t3', if_neg (show ¬ f.ty = 4 by omega), if_neg (show ¬ f.ty = 5 by omega), if_neg (show ¬ f.ty = 6 by omega), if_neg (show ¬ f.ty = 7 by omega), if_pos (show f.ty = 8 by omega), if_neg h5]
        have : ((m : Int) == 4) = false := beq_eq_false_iff_ne.mpr (by omega)
        rw [e, this]
        rfl
    rw [if_neg t38]
    by_cases t4' : f.ty = 4
    · rw [if_pos t4']
      by_cases h5 : p.size % 6 = 0 ∧ ¬ (has f.fl 1 = true ∧ 0 < p.size)
      · rw [tk (fun _ => by omega) (fun _ => by omega) (fun _ => h5) (fun _ => by omega) (fun _ => by omega) hd]
        have e1 : ((m : Int) % 6 == 0) = true := beq_iff_eq.mpr (by omega)
        have e2 : (!has f.fl 1 || (m : Int) == 0) = true := by
          cases hh : has f.fl 1
          · rfl
          · rw [hh] at h5
            have : ((m : Int) == 0) = true := beq_iff_eq.mpr (by simp only [true_and] at h5; omega)
            rw [this]
            rfl
        rw [e1, e2]
        rfl
      · have e : takes f p = none := by unfold takes; rw [if_neg (show ¬ f.ty = 1 by omega), if_neg t2', if_neg (show ¬ f.ty = 3 by omega), if_pos t4', if_neg h5]
        have e1 : (((m : Int) % 6 == 0) && (!has f.fl 1 || (m : Int) == 0)) = false := by
          by_cases h6 : p.size % 6 = 0
          · have hh : has f.fl 1 = true ∧ 0 < p.size := by
              by_cases q : has f.fl 1 = true ∧ 0 < p.size
              · exact q
              · exact absurd ⟨h6, q⟩ h5
            have : ((m : Int) == 0) = false := beq_eq_false_iff_ne.mpr (by omega)
            rw [hh.1, this]
            simp
          · have : ((m : Int) % 6 == 0) = false := beq_eq_false_iff_ne.mpr (by omega)
            rw [this]
            rfl
        rw [e, e1]
        rfl
    rw [if_neg t4']
    by_cases t6 : f.ty = 6
    · rw [if_pos t6]
      by_cases h5 : p.size = 8
      · rw [tk (fun _ => by omega) (fun _ => by omega) (fun _ => by omega) (fun _ => h5) (fun _ => by omega) hd]
        have : ((m : Int) == 8) = true := beq_iff_eq.mpr (by omega)
        rw [this]
        rfl
      · have e : takes f p = none := by unfold takes; rw [if_neg (show ¬ f.ty = 1 by omega), if_neg t2', if_neg (show ¬ f.ty = 3 by omega), if_neg t4', if_neg (show ¬ f.ty = 5 by omega), if_pos t6, if_neg h5]
        have : ((m : Int) == 8) = false := beq_eq_false_iff_ne.mpr (by omega)
        rw [e, this]
        rfl
    rw [if_neg t6]
    by_cases t7 : f.ty = 7
    · rw [if_pos t7]
      by_cases h5 : 8 ≤ p.size
      · rw [tk (fun _ => by omega) (fun _ => by omega) (fun _ => by omega) (fun _ => by omega) (fun _ => h5) hd, decide_eq_true (show (8 : Int) ≤ m by omega)]
        rfl
      · have e : takes f p = none := by unfold takes; rw [if_neg (show ¬ f.ty = 1 by omega), if_neg t2', if_neg (show ¬ f.ty = 3 by omega), if_neg t4', if_neg (show ¬ f.ty = 5 by omega), if_neg t6, if_pos t7, if_neg h5]
        rw [e, decide_eq_false (show ¬ (8 : Int) ≤ m by omega)]
        rfl
    rw [if_neg t7, tk (fun _ => by omega) (fun _ => by omega) (fun _ => by omega) (fun _ => by omega) (fun _ => by omega) hd]
    rfl
/-- The sizes behind the tests. -/
theorem sz2 (f : Fr) (h : Hd f) (m : Nat) (p : ByteArray) (hp : p.size = m) (hl : lenR f m = true) (h5 : ¬ (padB f = true ∧ (m : Int) - aheadI f < bt p 0)) (f' : Fr) (p' : ByteArray) (hf : (if padB f = true then { f with pad := bt p 0 } else f) = f') (hp' : (if padB f = true then p.extract 1 ((m : Int) - bt p 0).toNat else p) = p') :
    Sz2 f' p' ∧ p'.size ≤ m ∧ (padB f = true → 1 ≤ m ∧ (bt p 0).toNat + 1 ≤ m) := by
  have e0 : f'.ty = f.ty ∧ f'.fl = f.fl := by rw [← hf]; split <;> exact ⟨rfl, rfl⟩
  have bp := bt_range p 0
  have haR := aheadR_nonneg f
  unfold lenR at hl
  by_cases hc : f.ty = 0 ∨ f.ty = 1 ∨ f.ty = 5
  · rw [if_pos hc] at hl
    have hl := of_decide_eq_true hl
    have ha := aheadI_is f h
    have hsz : aheadR f ≤ p'.size ∧ p'.size ≤ m ∧ (padB f = true → 1 ≤ m ∧ (bt p 0).toNat + 1 ≤ m) := by
      cases hpb : padB f
      · rw [hpb, if_neg (by decide)] at hp' ha
        subst hp'
        exact ⟨by omega, by omega, fun q => by cases q⟩
      · rw [hpb, if_pos rfl] at hp' ha
        have h6 : ¬ (m : Int) - aheadI f < bt p 0 := fun q => h5 ⟨hpb, q⟩
        have hq : p'.size = m - (bt p 0).toNat - 1 := by rw [← hp', ByteArray.size_extract]; omega
        exact ⟨by omega, by omega, fun _ => by omega⟩
    refine ⟨⟨fun q => ?_, fun q => ?_, fun q => ?_, fun q => ?_⟩, hsz.2⟩
    · rw [e0.1, e0.2] at q
      simp only [Bool.or_eq_true, Bool.and_eq_true, beq_iff_eq] at q
      have q1 : f.ty = 1 ∧ has f.fl 32 = true := by
        rcases q with q | q
        · omega
        · exact q
      have := aheadR_1 f q1.1 q1.2
      omega
    · have q5 : f.ty = 5 := by omega
      have := aheadR_5 f q5
      omega
    · omega
    · omega
  · have hpd := h.pad0 (by omega) (by omega) (by omega)
    rw [hpd, if_neg (by decide)] at hp'
    subst hp'
    rw [if_neg hc] at hl
    refine ⟨⟨fun q => ?_, fun q => ?_, fun q => ?_, fun q => ?_⟩, by omega, fun q => by rw [hpd] at q; cases q⟩
    · rw [e0.1, e0.2] at q
      simp only [Bool.or_eq_true, Bool.and_eq_true, beq_iff_eq] at q
      have q1 : f.ty = 2 := by omega
      rw [if_pos q1] at hl
      have := beq_iff_eq.mp hl
      omega
    · have q1 : f.ty = 3 ∨ f.ty = 8 := by omega
      rw [if_neg (by omega), if_pos q1] at hl
      have := beq_iff_eq.mp hl
      omega
    · rw [if_neg (by omega), if_neg (by omega), if_neg (by omega), if_neg (by omega), if_pos (by omega)] at hl
      have := of_decide_eq_true hl
      omega
    · rw [if_neg (by omega), if_neg (by omega), if_pos (by omega)] at hl
      simp only [Bool.and_eq_true] at hl
      have := beq_iff_eq.mp hl.1
      omega
/-- The first bit of four bytes. -/
theorem top_bit (p : ByteArray) (h : 4 ≤ p.size) : decide (2147483647 < num (p.extract 0 4)) = decide (128 ≤ bt p 0) := by
  obtain ⟨x, y, z, u, r, hbl⟩ : ∃ x y z u r, p.data.toList = x :: y :: z :: u :: r := by
    have hbl : 4 ≤ p.data.toList.length := h
    match hl : p.data.toList, hbl with
    | x :: y :: z :: u :: r, _ => exact ⟨x, y, z, u, r, rfl⟩
  have e : num (p.extract 0 4) = numFrom 0 [x, y, z, u] := by
    unfold num
    rw [ByteArray.data_extract, Array.toList_extract, List.extract_eq_take_drop, hbl]
    rfl
  have e0 : bt p 0 = (x.toNat : Int) := by
    have := bt_list p 0 (by omega)
    rw [show ((0 : Nat) : Int) = 0 from rfl] at this
    rw [this]
    simp only [hbl, List.getElem_cons_zero]
  have hx := x.toNat_lt
  have hy := y.toNat_lt
  have hz := z.toNat_lt
  have hu := u.toNat_lt
  rw [e, e0]
  simp only [numFrom]
  apply decide_eq_decide.mpr
  omega
end Go.Proofs.YtoffhlbdfhhhjaaDoor.Fr
