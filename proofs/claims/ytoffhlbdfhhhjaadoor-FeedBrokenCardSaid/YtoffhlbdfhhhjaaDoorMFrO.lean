/- What is read is a right frame, and its bytes are written again: plain facts. No condition. -/
import Derived.Test.YtoffhlbdfhhhjaaDoorMFp7
namespace Go.Proofs.YtoffhlbdfhhhjaaDoor.Fr
open Go Go.RowKit Go.Proofs.YtoffhlbdfhhhjaaDoorW.PrintWords Go.Proofs.YtoffhlbdfhhhjaaDoorW.PrintLast Go.Proofs.YtoffhlbdfhhhjaaDoorW.PrintMore Go.Proofs.YtoffhlbdfhhhjaaDoor.QL
set_option linter.unusedSimpArgs false
set_option linter.unusedVariables false
/-- What makes a frame right. -/
theorem right_mk {g : Fr} (ht : 0 ≤ g.ty ∧ g.ty ≤ 255) (hfl : Go.bits .andNot .i64 g.fl (kFl g.ty) = 0) (hst : 0 ≤ g.st ∧ g.st ≤ 2147483647) (hs : stB g.ty g.st = true) (hpr : 0 ≤ g.pad ∧ g.pad ≤ 255) (hpad : ownPad g = g.pad)
    (hw1 : prioB g = true → (0 ≤ g.dep ∧ g.dep ≤ 2147483647) ∧ 1 ≤ g.wt ∧ g.wt ≤ 256) (hw0 : prioB g = false → g.dep = 0 ∧ g.ex = false ∧ g.wt = 0)
    (hc1 : g.ty = 3 ∨ g.ty = 7 → 0 ≤ g.co ∧ g.co ≤ 4294967295) (hc0 : ¬ (g.ty = 3 ∨ g.ty = 7) → g.co = 0)
    (hl1 : g.ty = 8 ∨ g.ty = 7 ∨ g.ty = 5 → 0 ≤ g.la ∧ g.la ≤ 2147483647) (hl0 : ¬ (g.ty = 8 ∨ g.ty = 7 ∨ g.ty = 5) → g.la = 0)
    (hda : g.ty = 3 ∨ g.ty = 4 ∨ g.ty = 2 ∨ g.ty = 8 → g.da = ByteArray.empty)
    (hp1 : g.ty = 4 → parB g = true) (hp0 : g.ty ≠ 4 → g.ps = []) (hping : g.ty = 6 → g.da.size = 8) : rightB g = true := by
  have c1 : inR g.ty 0 255 = true := inR_of ht.1 ht.2
  have c2 : (Go.bits .andNot .i64 g.fl (kFl g.ty) == 0) = true := by rw [hfl]; rfl
  have c3 : inR g.st 0 2147483647 = true := inR_of hst.1 hst.2
  have c5 : (!prioB g || inR g.wt 1 256) = true := by
    cases hp : prioB g
    · rfl
    · have hw := hw1 hp
      rw [inR_of hw.2.1 hw.2.2]
      rfl
  have c6 : (g.ty != 4 || parB g) = true := by
    by_cases h4 : g.ty = 4
    · rw [hp1 h4]
      simp
    · simp [h4]
  have c7 : lenB g = true := by
    unfold lenB
    by_cases q6 : g.ty = 6
    · rw [hping q6, hp0 (by omega)]
      simp
    · by_cases q4 : g.ty = 4
      · simp [q4]
      · rw [hp0 q4]
        simp [q6]
  have d2 : 0 ≤ g.dep ∧ g.dep ≤ 2147483647 := by
    cases hp : prioB g
    · have := hw0 hp
      omega
    · exact (hw1 hp).1
  have d3 : 0 ≤ g.co ∧ g.co ≤ 4294967295 := by
    by_cases h : g.ty = 3 ∨ g.ty = 7
    · exact hc1 h
    · have := hc0 h
      omega
  have d4 : 0 ≤ g.la ∧ g.la ≤ 2147483647 := by
    by_cases h : g.ty = 8 ∨ g.ty = 7 ∨ g.ty = 5
    · exact hl1 h
    · have := hl0 h
      omega
  have c8 : numB g = true := by
    unfold numB
    rw [inR_of hpr.1 hpr.2, inR_of d2.1 d2.2, inR_of d3.1 d3.2, inR_of d4.1 d4.2]
    rfl
  have e2 : ownDep g = g.dep := by
    unfold ownDep
    split
    · rfl
    · rename_i h
      exact (hw0 (Bool.eq_false_iff.mpr h)).1.symm
  have e3 : ownEx g = g.ex := by
    unfold ownEx
    split
    · rfl
    · rename_i h
      exact (hw0 (Bool.eq_false_iff.mpr h)).2.1.symm
  have e4 : ownWt g = g.wt := by
    unfold ownWt
    split
    · rfl
    · rename_i h
      exact (hw0 (Bool.eq_false_iff.mpr h)).2.2.symm
  have e5 : ownCo g = g.co := by
    unfold ownCo
    split
    · rfl
    · rename_i h
      exact (hc0 h).symm
  have e6 : ownLa g = g.la := by
    unfold ownLa
    split
    · rfl
    · rename_i h
      exact (hl0 h).symm
  have e7 : ownDa g = g.da := by
    unfold ownDa
    split
    · rename_i h
      exact (hda h).symm
    · rfl
  unfold rightB headB sameB
  rw [c1, c2, c3, hs, c5, c6, c7, c8, hpad, e2, e3, e4, e5, e6, e7]
  simp
theorem lay1 (g : Fr) (h : g.ty = 1) : layB g = (if has g.fl 32 = true then weight g else []) ++ g.da.data.toList := if_pos h
theorem lay2 (g : Fr) (h : g.ty = 2) : layB g = weight g := by unfold layB; rw [if_neg (by omega), if_pos h]
theorem lay3 (g : Fr) (h : g.ty = 3) : layB g = be 4 g.co := by unfold layB; rw [if_neg (by omega), if_neg (by omega), if_pos h]
theorem lay4 (g : Fr) (h : g.ty = 4) : layB g = params g.ps := by unfold layB; rw [if_neg (by omega), if_neg (by omega), if_neg (by omega), if_pos h]
theorem lay5 (g : Fr) (h : g.ty = 5) : layB g = be 4 g.la ++ g.da.data.toList := by unfold layB; rw [if_neg (by omega), if_neg (by omega), if_neg (by omega), if_neg (by omega), if_pos h]
theorem lay7 (g : Fr) (h : g.ty = 7) : layB g = be 4 g.la ++ be 4 g.co ++ g.da.data.toList := by unfold layB; rw [if_neg (by omega), if_neg (by omega), if_neg (by omega), if_neg (by omega), if_neg (by omega), if_pos h]
theorem lay8 (g : Fr) (h : g.ty = 8) : layB g = be 4 g.la := by unfold layB; rw [if_neg (by omega), if_neg (by omega), if_neg (by omega), if_neg (by omega), if_neg (by omega), if_neg (by omega), if_pos h]
theorem lay0 (g : Fr) (h : ¬ (g.ty = 1 ∨ g.ty = 2 ∨ g.ty = 3 ∨ g.ty = 4 ∨ g.ty = 5 ∨ g.ty = 7 ∨ g.ty = 8)) : layB g = g.da.data.toList := by unfold layB; rw [if_neg (by omega), if_neg (by omega), if_neg (by omega), if_neg (by omega), if_neg (by omega), if_neg (by omega), if_neg (by omega)]
theorem num_ext (p : ByteArray) (i : Nat) : 0 ≤ num (p.extract i (i + 4)) ∧ num (p.extract i (i + 4)) ≤ 4294967295 := num4 _ (ext4 p i)
theorem numFrom_le (l : List UInt8) (k : Nat) (hk : k ≤ 4) (h : l.length ≤ k) : 0 ≤ numFrom 0 l ∧ numFrom 0 l < 256 ^ k := by
  have h1 := numFrom_bd l 0 (by decide)
  obtain rfl | rfl | rfl | rfl | rfl : k = 0 ∨ k = 1 ∨ k = 2 ∨ k = 3 ∨ k = 4 := by omega
  all_goals
    obtain h2 | h2 | h2 | h2 | h2 : l.length = 0 ∨ l.length = 1 ∨ l.length = 2 ∨ l.length = 3 ∨ l.length = 4 := by omega
    all_goals
      rw [h2] at h1 h
      omega
theorem pars_par (n : Nat) : ∀ l : List UInt8, ((pars n l).all fun p => inR p.f0 0 65535 && inR p.f1 0 4294967295) = true := by
  induction n with
  | zero => intro l; rfl
  | succ n ih =>
    intro l
    unfold pars
    have h1 := numFrom_le (l.take 2) 2 (by decide) (by rw [List.length_take]; omega)
    have h2 := numFrom_le ((l.drop 2).take 4) 4 (by decide) (by rw [List.length_take]; omega)
    rw [List.all_cons, ih]
    simp only [Bool.and_true]
    rw [inR_of h1.1 (by omega), inR_of h2.1 (by omega)]
    rfl
theorem mod31 (x : Int) : 0 ≤ x % 2147483648 ∧ x % 2147483648 ≤ 2147483647 := by omega
/-- What a payload tells is a right frame, whose payload has as many bytes. -/
theorem takes_right (f : Fr) (ht : 0 ≤ f.ty ∧ f.ty ≤ 255) (hfl : Go.bits .andNot .i64 f.fl (kFl f.ty) = 0) (hst : 0 ≤ f.st ∧ f.st ≤ 2147483647) (hs : stB f.ty f.st = true) (hpr : 0 ≤ f.pad ∧ f.pad ≤ 255) (hpad : ownPad f = f.pad)
    (hf : f = base f) (p : ByteArray) (ha1 : f.ty = 1 → has f.fl 32 = true → 5 ≤ p.size) (ha5 : f.ty = 5 → 4 ≤ p.size) (g : Fr) (h : takes f p = some g) :
    rightB g = true ∧ g.ty = f.ty ∧ g.fl = f.fl ∧ g.st = f.st ∧ g.pad = f.pad ∧ (layB g).length = p.size ∧ (g.da = ByteArray.empty ∨ ∃ i, g.da = p.extract i p.size) := by
  obtain ⟨t, fl, st, da, pad, dep, ex, wt, co, la, ps⟩ := f
  unfold base at hf
  simp only [Fr.mk.injEq, true_and] at hf
  obtain ⟨rfl, rfl, rfl, rfl, rfl, rfl, rfl⟩ := hf
  simp only at ht hfl hst hs hpr ha1 ha5
  have hall : p = p.extract 0 p.size := by
    apply ba_ext
    rw [ex_list, List.drop_zero, Nat.sub_zero, List.take_of_length_le (by rw [ba_size]; exact Nat.le_refl _)]
  have hexs : ∀ i, i ≤ p.size → (p.extract i p.size).data.toList.length = p.size - i := by
    intro i hi
    rw [list_extract, List.length_drop, ← ba_size]
  have hbt := bt_range p 4
  unfold takes at h
  simp only at h
  have nf (P : Prop) (x : Bool) (h1 : x = false) (h2 : x = true) : P := by rw [h1] at h2; cases h2
  by_cases t1 : t = 1
  · rw [if_pos t1] at h
    subst t1
    obtain rfl := Option.some.inj h
    unfold headersF
    simp only
    cases hh : has fl 32
    · rw [if_neg (by decide)]
      refine ⟨?_, rfl, rfl, rfl, rfl, ?_, .inr ⟨0, hall⟩⟩
      · have hp : ∀ d, prioB ⟨1, fl, st, d, pad, 0, false, 0, 0, 0, []⟩ = false := fun d => by unfold prioB; rw [hh]; rfl
        exact right_mk ht hfl hst hs hpr hpad (fun h => nf _ _ (hp _) h) (fun _ => ⟨rfl, rfl, rfl⟩) (fun h => absurd (show (1 : Int) = 3 ∨ (1 : Int) = 7 from h) (by decide)) (fun _ => rfl) (fun h => absurd (show (1 : Int) = 8 ∨ (1 : Int) = 7 ∨ (1 : Int) = 5 from h) (by decide)) (fun _ => rfl)
          (fun h => absurd (show (1 : Int) = 3 ∨ (1 : Int) = 4 ∨ (1 : Int) = 2 ∨ (1 : Int) = 8 from h) (by decide)) (fun h => absurd (show (1 : Int) = 4 from h) (by decide)) (fun _ => rfl) (fun h => absurd (show (1 : Int) = 6 from h) (by decide))
      · refine (congrArg List.length (lay1 _ rfl)).trans ?_
        show ((if has fl 32 = true then weight _ else []) ++ p.data.toList).length = p.size
        rw [if_neg (by rw [hh]; decide), List.nil_append]
        rfl
    · rw [if_pos rfl]
      have h5 := ha1 rfl hh
      refine ⟨?_, rfl, rfl, rfl, rfl, ?_, .inr ⟨5, rfl⟩⟩
      · have hp : ∀ d x e w, prioB ⟨1, fl, st, d, pad, x, e, w, 0, 0, []⟩ = true := fun d x e w => by unfold prioB; rw [hh]; rfl
        exact right_mk ht hfl hst hs hpr hpad (fun _ => ⟨mod31 _, by show 1 ≤ bt p 4 + 1; omega, by show bt p 4 + 1 ≤ 256; omega⟩) (fun h => nf _ _ h (hp _ _ _ _)) (fun h => absurd (show (1 : Int) = 3 ∨ (1 : Int) = 7 from h) (by decide)) (fun _ => rfl) (fun h => absurd (show (1 : Int) = 8 ∨ (1 : Int) = 7 ∨ (1 : Int) = 5 from h) (by decide)) (fun _ => rfl)
          (fun h => absurd (show (1 : Int) = 3 ∨ (1 : Int) = 4 ∨ (1 : Int) = 2 ∨ (1 : Int) = 8 from h) (by decide)) (fun h => absurd (show (1 : Int) = 4 from h) (by decide)) (fun _ => rfl) (fun h => absurd (show (1 : Int) = 6 from h) (by decide))
      · refine (congrArg List.length (lay1 _ rfl)).trans ?_
        show ((if has fl 32 = true then weight _ else []) ++ (p.extract 5 p.size).data.toList).length = p.size
        rw [if_pos hh, List.length_append, weight_length]
        have := hexs 5 h5
        omega
  rw [if_neg t1] at h
  by_cases t2 : t = 2
  · rw [if_pos t2] at h
    subst t2
    by_cases h5 : p.size = 5
    · rw [if_pos h5] at h
      obtain rfl := Option.some.inj h
      refine ⟨?_, rfl, rfl, rfl, rfl, ?_, .inl rfl⟩
      · exact right_mk ht hfl hst hs hpr hpad (fun _ => ⟨mod31 _, by show 1 ≤ bt p 4 + 1; omega, by show bt p 4 + 1 ≤ 256; omega⟩) (fun h => nf _ true (by rw [← h]; rfl) rfl) (fun h => absurd (show (2 : Int) = 3 ∨ (2 : Int) = 7 from h) (by decide)) (fun _ => rfl) (fun h => absurd (show (2 : Int) = 8 ∨ (2 : Int) = 7 ∨ (2 : Int) = 5 from h) (by decide)) (fun _ => rfl)
          (fun _ => rfl) (fun h => absurd (show (2 : Int) = 4 from h) (by decide)) (fun _ => rfl) (fun h => absurd (show (2 : Int) = 6 from h) (by decide))
      · exact (congrArg List.length (lay2 _ rfl)).trans ((weight_length _).trans h5.symm)
    · rw [if_neg h5] at h
      cases h
  rw [if_neg t2] at h
  have hpr0 : ∀ d c l q, prioB ⟨t, fl, st, d, pad, 0, false, 0, c, l, q⟩ = false := fun d c l q => by
    unfold prioB
    rw [beq_eq_false_iff_ne.mpr t1, beq_eq_false_iff_ne.mpr t2]
    rfl
  by_cases t3 : t = 3
  · rw [if_pos t3] at h
    by_cases h5 : p.size = 4
    · rw [if_pos h5] at h
      obtain rfl := Option.some.inj h
      refine ⟨?_, rfl, rfl, rfl, rfl, ?_, .inl rfl⟩
      · exact right_mk ht hfl hst hs hpr hpad (fun h => nf _ _ (hpr0 _ _ _ _) h) (fun _ => ⟨rfl, rfl, rfl⟩) (fun _ => num4 p (by omega)) (fun h => absurd (show t = 3 ∨ t = 7 by omega) h) (fun h => absurd (show t = 8 ∨ t = 7 ∨ t = 5 from h) (by omega)) (fun _ => rfl) (fun _ => rfl) (fun h => absurd (show t = 4 from h) (by omega)) (fun _ => rfl) (fun h => absurd (show t = 6 from h) (by omega))
      · exact (congrArg List.length (lay3 _ t3)).trans ((be_length _ _).trans h5.symm)
    · rw [if_neg h5] at h
      cases h
  rw [if_neg t3] at h
  by_cases t4 : t = 4
  · rw [if_pos t4] at h
    by_cases h5 : p.size % 6 = 0 ∧ ¬ (has fl 1 = true ∧ 0 < p.size)
    · rw [if_pos h5] at h
      obtain rfl := Option.some.inj h
      have hl : (pars (p.size / 6) p.data.toList).length = p.size / 6 := pars_length _ _
      have hpar : parB ⟨t, fl, st, ByteArray.empty, pad, 0, false, 0, 0, 0, pars (p.size / 6) p.data.toList⟩ = true := by
        unfold parB
        simp only
        rw [pars_par, Bool.and_true, hl]
        cases hh : has fl 1
        · rfl
        · have : p.size = 0 := by
            have := h5.2
            rw [hh] at this
            simp only [true_and] at this
            omega
          rw [this]
          rfl
      refine ⟨?_, rfl, rfl, rfl, rfl, ?_, .inl rfl⟩
      · exact right_mk ht hfl hst hs hpr hpad (fun h => nf _ _ (hpr0 _ _ _ _) h) (fun _ => ⟨rfl, rfl, rfl⟩) (fun h => absurd (show t = 3 ∨ t = 7 from h) (by omega)) (fun _ => rfl) (fun h => absurd (show t = 8 ∨ t = 7 ∨ t = 5 from h) (by omega)) (fun _ => rfl) (fun _ => rfl) (fun _ => hpar) (fun h => absurd t4 h) (fun h => absurd (show t = 6 from h) (by omega))
      · refine (congrArg List.length (lay4 _ t4)).trans ((params_length _).trans ?_)
        show 6 * (pars (p.size / 6) p.data.toList).length = p.size
        omega
    · rw [if_neg h5] at h
      cases h
  rw [if_neg t4] at h
  by_cases t5 : t = 5
  · rw [if_pos t5] at h
    obtain rfl := Option.some.inj h
    refine ⟨?_, rfl, rfl, rfl, rfl, ?_, .inr ⟨4, rfl⟩⟩
    · exact right_mk ht hfl hst hs hpr hpad (fun h => nf _ _ (hpr0 _ _ _ _) h) (fun _ => ⟨rfl, rfl, rfl⟩) (fun h => absurd (show t = 3 ∨ t = 7 from h) (by omega)) (fun _ => rfl) (fun _ => mod31 _) (fun h => absurd (show t = 8 ∨ t = 7 ∨ t = 5 by omega) h) (fun h => absurd (show t = 3 ∨ t = 4 ∨ t = 2 ∨ t = 8 from h) (by omega)) (fun h => absurd (show t = 4 from h) (by omega)) (fun _ => rfl) (fun h => absurd (show t = 6 from h) (by omega))
    · refine (congrArg List.length (lay5 _ t5)).trans ?_
      show (be 4 _ ++ (p.extract 4 p.size).data.toList).length = p.size
      have := hexs 4 (ha5 t5)
      have h4 := ha5 t5
      rw [List.length_append, be_length]
      omega
  rw [if_neg t5] at h
  by_cases t6 : t = 6
  · rw [if_pos t6] at h
    by_cases h5 : p.size = 8
    · rw [if_pos h5] at h
      obtain rfl := Option.some.inj h
      refine ⟨?_, rfl, rfl, rfl, rfl, ?_, .inr ⟨0, hall⟩⟩
      · exact right_mk ht hfl hst hs hpr hpad (fun h => nf _ _ (hpr0 _ _ _ _) h) (fun _ => ⟨rfl, rfl, rfl⟩) (fun h => absurd (show t = 3 ∨ t = 7 from h) (by omega)) (fun _ => rfl) (fun h => absurd (show t = 8 ∨ t = 7 ∨ t = 5 from h) (by omega)) (fun _ => rfl) (fun h => absurd (show t = 3 ∨ t = 4 ∨ t = 2 ∨ t = 8 from h) (by omega)) (fun h => absurd (show t = 4 from h) (by omega)) (fun _ => rfl) (fun _ => h5)
      · exact congrArg List.length (lay0 _ (show ¬ (t = 1 ∨ t = 2 ∨ t = 3 ∨ t = 4 ∨ t = 5 ∨ t = 7 ∨ t = 8) by omega))
    · rw [if_neg h5] at h
      cases h
  rw [if_neg t6] at h
  by_cases t7 : t = 7
  · rw [if_pos t7] at h
    by_cases h5 : 8 ≤ p.size
    · rw [if_pos h5] at h
      obtain rfl := Option.some.inj h
      refine ⟨?_, rfl, rfl, rfl, rfl, ?_, .inr ⟨8, rfl⟩⟩
      · exact right_mk ht hfl hst hs hpr hpad (fun h => nf _ _ (hpr0 _ _ _ _) h) (fun _ => ⟨rfl, rfl, rfl⟩) (fun _ => num_ext p 4) (fun h => absurd (show t = 3 ∨ t = 7 by omega) h) (fun _ => mod31 _) (fun h => absurd (show t = 8 ∨ t = 7 ∨ t = 5 by omega) h) (fun h => absurd (show t = 3 ∨ t = 4 ∨ t = 2 ∨ t = 8 from h) (by omega)) (fun h => absurd (show t = 4 from h) (by omega)) (fun _ => rfl) (fun h => absurd (show t = 6 from h) (by omega))
      · refine (congrArg List.length (lay7 _ t7)).trans ?_
        show (be 4 _ ++ be 4 _ ++ (p.extract 8 p.size).data.toList).length = p.size
        have := hexs 8 h5
        rw [List.length_append, List.length_append, be_length, be_length]
        omega
    · rw [if_neg h5] at h
      cases h
  rw [if_neg t7] at h
  by_cases t8 : t = 8
  · rw [if_pos t8] at h
    by_cases h5 : p.size = 4
    · rw [if_pos h5] at h
      obtain rfl := Option.some.inj h
      refine ⟨?_, rfl, rfl, rfl, rfl, ?_, .inl rfl⟩
      · exact right_mk ht hfl hst hs hpr hpad (fun h => nf _ _ (hpr0 _ _ _ _) h) (fun _ => ⟨rfl, rfl, rfl⟩) (fun h => absurd (show t = 3 ∨ t = 7 from h) (by omega)) (fun _ => rfl) (fun _ => mod31 _) (fun h => absurd (show t = 8 ∨ t = 7 ∨ t = 5 by omega) h) (fun _ => rfl) (fun h => absurd (show t = 4 from h) (by omega)) (fun _ => rfl) (fun h => absurd (show t = 6 from h) (by omega))
      · exact (congrArg List.length (lay8 _ t8)).trans ((be_length _ _).trans h5.symm)
    · rw [if_neg h5] at h
      cases h
  rw [if_neg t8] at h
  obtain rfl := Option.some.inj h
  refine ⟨?_, rfl, rfl, rfl, rfl, ?_, .inr ⟨0, hall⟩⟩
  · exact right_mk ht hfl hst hs hpr hpad (fun h => nf _ _ (hpr0 _ _ _ _) h) (fun _ => ⟨rfl, rfl, rfl⟩) (fun h => absurd (show t = 3 ∨ t = 7 from h) (by omega)) (fun _ => rfl) (fun h => absurd (show t = 8 ∨ t = 7 ∨ t = 5 from h) (by omega)) (fun _ => rfl) (fun h => absurd (show t = 3 ∨ t = 4 ∨ t = 2 ∨ t = 8 from h) (by omega)) (fun h => absurd (show t = 4 from h) (by omega)) (fun _ => rfl) (fun h => absurd (show t = 6 from h) (by omega))
  · exact congrArg List.length (lay0 _ (show ¬ (t = 1 ∨ t = 2 ∨ t = 3 ∨ t = 4 ∨ t = 5 ∨ t = 7 ∨ t = 8) by omega))
end Go.Proofs.YtoffhlbdfhhhjaaDoor.Fr
