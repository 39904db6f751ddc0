/- What is read, written again, and made out of itself: plain facts. No condition. -/
import Derived.Test.YtoffhlbdfhhhjaaDoorMFrO
namespace Go.Proofs.YtoffhlbdfhhhjaaDoor.Fr
open Go Go.RowKit Go.Proofs.YtoffhlbdfhhhjaaDoorW.PrintWords Go.Proofs.YtoffhlbdfhhhjaaDoorW.PrintLast Go.Proofs.YtoffhlbdfhhhjaaDoorW.PrintMore Go.Proofs.YtoffhlbdfhhhjaaDoor.QL
set_option linter.unusedSimpArgs false
set_option linter.unusedVariables false
/-- The text p holds d. -/
def Held (p d : ByteArray) : Prop := ∃ x y, p.data.toList = x ++ (d.data.toList ++ y)
theorem held_ext (p : ByteArray) (i j : Nat) : Held p (p.extract i j) :=
  ⟨p.data.toList.take i, (p.data.toList.drop i).drop (j - i), by rw [ex_list, List.take_append_drop, List.take_append_drop]⟩
theorem Held.trans {p q d : ByteArray} (h : Held p q) (k : Held q d) : Held p d := by
  obtain ⟨x, y, e⟩ := h
  obtain ⟨x', y', e'⟩ := k
  exact ⟨x ++ x', y' ++ y, by rw [e, e']; simp only [List.append_assoc]⟩
theorem held_empty (p : ByteArray) : Held p ByteArray.empty := ⟨[], p.data.toList, rfl⟩
theorem holds_loop (p d : ByteArray) (hp : p.size ≤ 65536) (x y : List UInt8) (hx : p.data.toList = x ++ (d.data.toList ++ y)) : ∀ (m i : Nat), i + m = x.length → heraldlaw06_holds.l0 (m + 1) p d (i : Int) = some true := by
  have hl : p.size = x.length + (d.size + y.length) := by rw [ba_size, hx, List.length_append, List.length_append, ← ba_size]
  intro m
  induction m with
  | zero =>
    intro i hi
    have e1 : wrap64 ((i : Int) + (d.size : Int)) = ((i + d.size : Nat) : Int) := by unfold wrap64; omega
    unfold heraldlaw06_holds.l0
    rw [e1, if_pos (by omega), if_pos (by omega), if_pos (by omega), if_pos]
    rw [Int.toNat_natCast, Int.toNat_natCast, ByteArray.toList_eq, ByteArray.toList_eq, ex_list, hx, show i = x.length by omega, List.drop_append_of_le_length (Nat.le_refl _), List.drop_of_length_le (Nat.le_refl _), List.nil_append, List.take_append_of_le_length (by rw [← ba_size]; omega), List.take_of_length_le (by rw [← ba_size]; omega)]
  | succ m ih =>
    intro i hi
    have e1 : wrap64 ((i : Int) + (d.size : Int)) = ((i + d.size : Nat) : Int) := by unfold wrap64; omega
    have e2 : wrap64 ((i : Int) + 1) = ((i + 1 : Nat) : Int) := by unfold wrap64; omega
    unfold heraldlaw06_holds.l0
    rw [e1, if_pos (by omega), if_pos (by omega), if_pos (by omega)]
    split
    · rfl
    · rw [e2]
      exact ih (i + 1) (by omega)
theorem holds_calls (p d : ByteArray) (w : World) (hp : p.size ≤ 65536) (h : Held p d) : Calls Tryd.prog 28 #[.string p, .string d] w fun e w' => e = .returned (.bool true) ∧ Below w.heap.size w w' := by
  obtain ⟨x, y, hx⟩ := h
  refine (heraldlaw06_holds.calls (x.length + 1) p d true w ?_).mono fun _ _ h => ⟨h.1, ?_⟩
  · exact holds_loop p d hp x y hx x.length 0 (by omega)
  · obtain ⟨n, rfl⟩ := h.2.out
    exact pw_below_drewN (Below.refl _ _) n
theorem be3_num (x y z : UInt8) : be 3 (numFrom 0 [x, y, z]) = [x, y, z] := by
  have hx := x.toNat_lt
  have hy := y.toNat_lt
  have hz := z.toNat_lt
  have e : ∀ (v : Int) (u : UInt8), v = (u.toNat : Int) → UInt8.ofNat v.toNat = u := by
    rintro v u rfl
    rw [Int.toNat_natCast, UInt8.ofNat_toNat]
  simp only [be, numFrom, List.cons.injEq, and_true]
  exact ⟨e _ _ (by omega), e _ _ (by omega), e _ _ (by omega)⟩
theorem be1_num (x : UInt8) (v : Int) (h : v = (x.toNat : Int)) : be 1 v = [x] := by
  have hx := x.toNat_lt
  subst h
  simp only [be, List.cons.injEq, and_true]
  rw [show ((x.toNat : Int) / 256 ^ 0 % 256) = (x.toNat : Int) by omega, Int.toNat_natCast, UInt8.ofNat_toNat]
/-- What is read, and written again. -/
structure OneW (b : ByteArray) (most : Int) (g : Fr) (n : Nat) (s : ByteArray) : Prop where
  right : rightB g = true
  fl : Go.bits .and .i64 g.fl (kFl g.ty) = g.fl ∧ 0 ≤ g.fl ∧ g.fl ≤ 255
  len : (payB g).length = n
  le : n ≤ 65536
  rd : rdF b most = ⟨g, 9 + n, 0, 0⟩
  wr : wr g = (0, s.data.toList)
  size : s.size = 9 + n
  bsz : 9 + n ≤ b.size
  four : s.data.toList.take 4 = b.data.toList.take 4
  flg : Go.bits .and .i64 (bt b 4) (kFl g.ty) = g.fl
  back : rdF s most = ⟨g, 9 + n, 0, 0⟩
  held : Held (b.extract 9 (9 + n)) g.da
  da : g.da.size ≤ 65536
  ps : g.ps.length ≤ 65536
theorem params_len (g : Fr) (h : g.ty = 4) : (layB g).length = 6 * g.ps.length := by
  unfold layB
  rw [if_neg (by omega), if_neg (by omega), if_neg (by omega), if_pos h, params_length]
theorem one_w (b : ByteArray) (most : Int) : (∃ c : Int, (c = 0 ∨ c = 1 ∨ c = 6) ∧ rdF b most = .bad c) ∨ (∃ (n : Nat) (st : Int), rdF b most = ⟨Fr.zero, (n : Int), 6, st⟩ ∧ 0 < st ∧ bt b 3 = 2 ∧ 9 ≤ n ∧ n ≤ b.size) ∨ ∃ g n s, OneW b most g n s := by
  obtain ⟨R, hR⟩ : ∃ R, rdF b most = R := ⟨_, rfl⟩
  rw [hR]
  have hR0 := hR
  unfold rdF at hR
  by_cases h1 : b.size < 9
  · rw [if_pos h1] at hR
    exact .inl ⟨0, by decide, hR.symm⟩
  rw [if_neg h1] at hR
  by_cases h2 : min (max most 16384) 65536 < rdN b
  · rw [if_pos h2] at hR
    exact .inl ⟨6, by decide, hR.symm⟩
  rw [if_neg h2] at hR
  by_cases h3 : (b.size : Int) - 9 < rdN b
  · rw [if_pos h3] at hR
    exact .inl ⟨0, by decide, hR.symm⟩
  rw [if_neg h3] at hR
  have hn0 : 0 ≤ rdN b := (num_bd _).1
  obtain ⟨n, hn⟩ : ∃ n : Nat, rdN b = n := ⟨(rdN b).toNat, by omega⟩
  rw [hn] at h2 h3 hR
  rw [Int.toNat_natCast] at hR
  have hb : 9 + n ≤ b.size := by omega
  have hps : (b.extract 9 (9 + n)).size = n := by rw [ByteArray.size_extract]; omega
  obtain ⟨p, hp⟩ : ∃ p, b.extract 9 (9 + n) = p := ⟨_, rfl⟩
  rw [hp] at hR hps
  obtain ⟨f, hf⟩ : ∃ f, rd0 b = f := ⟨_, rfl⟩
  rw [hf] at hR
  have b3 := bt_range b 3
  have b4 := bt_range b 4
  have f0 : f.ty = bt b 3 := by rw [← hf]; rfl
  have f1 : f.fl = Go.bits .and .i64 (bt b 4) (kFl f.ty) := by rw [← hf]; rfl
  have f2 : 0 ≤ f.st ∧ f.st ≤ 2147483647 := by rw [← hf]; exact mod31 _
  have f4 : f.pad = 0 := by rw [← hf]; rfl
  have f5 : f = base f := by rw [← hf]; rfl
  have f6 : Go.bits .andNot .i64 f.fl (kFl f.ty) = 0 := by rw [f1]; exact andNot_and _ _
  unfold rdRest at hR
  cases hs : stB f.ty f.st
  · rw [if_pos hs] at hR
    exact .inl ⟨1, by decide, hR.symm⟩
  rw [if_neg (by rw [hs]; decide)] at hR
  by_cases h4 : (n : Int) < aheadI f
  · rw [if_pos h4] at hR
    exact .inl ⟨6, by decide, hR.symm⟩
  rw [if_neg h4] at hR
  by_cases h5 : padB f = true ∧ (n : Int) - aheadI f < bt p 0
  · rw [if_pos h5] at hR
    exact .inl ⟨1, by decide, hR.symm⟩
  rw [if_neg h5] at hR
  obtain ⟨f', hf'⟩ : ∃ f', (if padB f = true then { f with pad := bt p 0 } else f) = f' := ⟨_, rfl⟩
  obtain ⟨p', hp'⟩ : ∃ p', (if padB f = true then p.extract 1 ((n : Int) - bt p 0).toNat else p) = p' := ⟨_, rfl⟩
  rw [hf', hp'] at hR
  cases htk : takes f' p' with
  | none =>
    rw [htk] at hR
    simp only at hR
    by_cases ht2 : f.ty = 2
    · rw [if_pos ht2] at hR
      refine .inr (.inl ⟨9 + n, f.st, by rw [← hR]; simp, ?_, by omega, by omega, hb⟩)
      have : f.st ≠ 0 := by
        intro h0
        rw [ht2, h0] at hs
        exact absurd hs (by decide)
      omega
    · rw [if_neg ht2] at hR
      exact .inl ⟨6, by decide, hR.symm⟩
  | some g =>
    rw [htk] at hR
    simp only at hR
    have g0 : f'.ty = f.ty ∧ f'.fl = f.fl ∧ f'.st = f.st ∧ f' = base f' := by
      rw [← hf']
      split
      · refine ⟨rfl, rfl, rfl, ?_⟩
        rw [f5]
        rfl
      · exact ⟨rfl, rfl, rfl, f5⟩
    have bp := bt_range p 0
    have har := aheadI_ge f
    have hpad : (0 ≤ f'.pad ∧ f'.pad ≤ 255) ∧ ownPad f' = f'.pad ∧ aheadR f ≤ p'.size ∧ (if padB f = true then 1 else 0) + p'.size + f'.pad = n ∧ Held p p' := by
      have hpe : padB f' = padB f := by unfold padB; rw [g0.1, g0.2.1]
      unfold ownPad
      rw [hpe]
      cases hpb : padB f
      · rw [if_neg (by decide), if_neg (by decide)]
        rw [hpb, if_neg (by decide)] at hf' hp'
        subst hf' hp'
        refine ⟨by omega, f4.symm, by omega, by omega, ⟨[], [], by simp⟩⟩
      · rw [if_pos rfl, if_pos rfl]
        rw [hpb, if_pos rfl] at hf' hp'
        have hfl8 : has f.fl 8 = true := by unfold padB at hpb; simp only [Bool.and_eq_true] at hpb; exact hpb.2
        have hk8 : has (kFl f.ty) 8 = true := kFl8 f.ty (bt b 4) (by omega) b4.1 b4.2 (by rw [← f1]; exact hfl8)
        have ha := aheadI_pad f hpb hk8
        have haR := aheadR_nonneg f
        have hq : (p.extract 1 ((n : Int) - bt p 0).toNat).size = n - (bt p 0).toNat - 1 := by rw [ByteArray.size_extract]; omega
        have h6 : ¬ (n : Int) - aheadI f < bt p 0 := fun h => h5 ⟨hpb, h⟩
        subst hf' hp'
        rw [hq]
        exact ⟨bp, rfl, by omega, by show (1 : Int) + ((n - (bt p 0).toNat - 1 : Nat) : Int) + bt p 0 = n; omega, held_ext _ _ _⟩
    have hk := kFl_range f.ty
    obtain ⟨kb, hkb⟩ := Int.eq_ofNat_of_zero_le hk.1
    have hflr := and_le (bt b 4) kb (by omega)
    rw [← hkb] at hflr
    have htr := takes_right f' (by rw [g0.1]; omega) (by rw [g0.1, g0.2.1]; exact f6) (by rw [g0.2.2.1]; exact f2) (by rw [g0.1, g0.2.2.1]; exact hs) hpad.1 hpad.2.1 g0.2.2.2 p'
      (fun h h' => by have := aheadR_1 f (by rw [← g0.1]; exact h) (by rw [← g0.2.1]; exact h'); have := hpad.2.2.1; omega)
      (fun h => by have := aheadR_5 f (by rw [← g0.1]; exact h); have := hpad.2.2.1; omega) g htk
    obtain ⟨t1, t2, t3, t4, t5, t6, t7⟩ := htr
    have hgp : padB g = padB f := by unfold padB; rw [t2, t3, g0.1, g0.2.1]
    have hlen : (payB g).length = n := by
      unfold payB
      rw [List.length_append, List.length_append, List.length_replicate, t6, t5, hgp]
      have h9 := hpad.2.2.2.1
      have h10 := hpad.1
      cases hpb : padB f
      · rw [hpb, if_neg (by decide)] at h9
        rw [if_neg (by decide), List.length_nil]
        omega
      · rw [hpb, if_pos rfl] at h9
        rw [if_pos rfl, be_length]
        omega
    have hn16 : n ≤ 65536 := by omega
    have hflg : Go.bits .and .i64 (bt b 4) (kFl g.ty) = g.fl := by rw [t2, t3, g0.1, g0.2.1, f1]
    have hfl : Go.bits .and .i64 g.fl (kFl g.ty) = g.fl ∧ 0 ≤ g.fl ∧ g.fl ≤ 255 := by
      have e : g.fl = Go.bits .and .i64 (bt b 4) (kFl f.ty) := by rw [t3, g0.2.1, f1]
      exact right_fl t1 (by omega) (by omega)
    obtain ⟨s, hsb⟩ : ∃ s : ByteArray, s.data.toList = headL g n ++ payB g := ⟨⟨(headL g n ++ payB g).toArray⟩, rfl⟩
    have hsz : s.size = 9 + n := by rw [ba_size, hsb, List.length_append, headL_length, hlen]
    have hback := read_back g t1 hfl n hlen most (by omega) s [] (by rw [hsb, List.append_nil])
    refine .inr (.inr ⟨g, n, s, t1, hfl, hlen, hn16, hR0.trans hR.symm, by rw [wr_bytes g t1 n hlen hn16, hsb], hsz, hb, ?_, hflg, hback, ?_, ?_, ?_⟩)
    · obtain ⟨x, y, z, u, r, hbl⟩ : ∃ x y z u r, b.data.toList = x :: y :: z :: u :: r := by
        have hbl : 9 ≤ b.data.toList.length := by rw [← ba_size]; omega
        match hl : b.data.toList, hbl with
        | x :: y :: z :: u :: r, _ => exact ⟨x, y, z, u, r, rfl⟩
      have e3 : be 3 (n : Int) = [x, y, z] := by
        rw [← hn]
        unfold rdN
        rw [num_list _ [x, y, z] (by rw [ex_list, hbl]; rfl)]
        exact be3_num x y z
      have e1 : be 1 g.ty = [u] := be1_num u g.ty (by
        rw [t2, g0.1, f0]
        exact bt_get b 3 u (by rw [hbl]; rfl))
      rw [hsb, hbl]
      unfold headL
      rw [e3, e1]
      rfl
    · rw [hp]
      rcases t7 with h | ⟨i, h⟩
      · rw [h]
        exact held_empty p
      · rw [h]
        exact hpad.2.2.2.2.trans (held_ext _ _ _)
    · have h9 := hpad.2.2.2.1
      have h10 := hpad.1
      have hp6 : p'.size ≤ 65536 := by split at h9 <;> omega
      rcases t7 with h | ⟨i, h⟩
      · rw [h]
        decide
      · rw [h, ByteArray.size_extract]
        omega
    · have ho := right_own t1
      by_cases h4t : g.ty = 4
      · have h7 := params_len g h4t
        have h9 := hpad.2.2.2.1
        have h10 := hpad.1
        have hp6 : p'.size ≤ 65536 := by split at h9 <;> omega
        omega
      · rw [ho.none h4t]
        decide
/-- A frame as Made wants it. -/
def wholeF (f : Fr) : Fr := { f with ex := decide (f.ty < 10), wt := if 0 < f.wt then (if f.ex = true then f.wt - 1 + 256 else f.wt - 1) else f.wt }
theorem mask (k : Nat) (hk : k ≤ 62) (x : Int) (h0 : 0 ≤ x) (h1 : x < 2 ^ k) (h2 : x < 9223372036854775808) : Go.bits .and .i64 x (2 ^ k - 1) = x := by
  rw [bits_mask .i64 63 (by decide) (fun n a b => IntWalk.i64_in n (by omega)) k (by omega) x h0 (by omega)]
  exact Int.emod_eq_of_lt h0 h1
theorem m255 (x : Int) (h0 : 0 ≤ x) (h1 : x ≤ 255) : Go.bits .and .i64 x 255 = x := mask 8 (by decide) x h0 (by omega) (by omega)
theorem m31 (x : Int) (h0 : 0 ≤ x) (h1 : x ≤ 2147483647) : Go.bits .and .i64 x 2147483647 = x := mask 31 (by decide) x h0 (by omega) (by omega)
theorem m32 (x : Int) (h0 : 0 ≤ x) (h1 : x ≤ 4294967295) : Go.bits .and .i64 x 4294967295 = x := mask 32 (by decide) x h0 (by omega) (by omega)
theorem m16 (x : Int) (h0 : 0 ≤ x) (h1 : x ≤ 65535) : Go.bits .and .i64 x 65535 = x := mask 16 (by decide) x h0 (by omega) (by omega)
theorem b256 (x : Int) (h0 : 0 ≤ x) (h1 : x ≤ 255) : (Go.bits .and .i64 x 256 != 0) = false ∧ (Go.bits .and .i64 (x + 256) 256 != 0) = true ∧ Go.bits .and .i64 (x + 256) 255 = x := by
  have h : ∀ n : Fin 256, (Go.bits .and .i64 (n.val : Int) 256 != 0) = false ∧ (Go.bits .and .i64 ((n.val : Int) + 256) 256 != 0) = true ∧ Go.bits .and .i64 ((n.val : Int) + 256) 255 = (n.val : Int) := by decide +kernel
  obtain ⟨n, rfl⟩ : ∃ n : Nat, x = n := ⟨x.toNat, by omega⟩
  exact h ⟨n, by omega⟩
theorem ack0 (fl : Int) (h0 : Go.bits .and .i64 fl 1 = fl) (h : fl ≠ 0) : has fl 1 = true := by
  unfold has
  rw [h0]
  exact bne_iff_ne.mpr h
theorem fewL_same (l : List S32) (h : (l.all fun p => inR p.f0 0 65535 && inR p.f1 0 4294967295) = true) (hl : l.length ≤ 2730) : fewL l = l := by
  unfold fewL
  rw [List.take_of_length_le hl]
  rw [List.all_eq_true] at h
  refine (List.map_congr_left (g := id) fun p hp => ?_).trans (List.map_id l)
  have := h p hp
  simp only [Bool.and_eq_true] at this
  have h1 := inR_iff this.1
  have h2 := inR_iff this.2
  unfold few1
  rw [m16 _ h1.1 h1.2, m32 _ h2.1 h2.2]
  rfl
theorem made_whole (g : Fr) (h : rightB g = true) (hfl : Go.bits .and .i64 g.fl (kFl g.ty) = g.fl ∧ 0 ≤ g.fl ∧ g.fl ≤ 255) (hd : g.da.size ≤ 60000) (hp : g.ps.length ≤ 2730) : madeF (wholeF g) = g := by
  have ho := right_own h
  have hra := right_all h
  obtain ⟨n1, n2, n3, n4⟩ := ownNone g ho
  have hty : mTy (decide (g.ty < 10)) g.ty = g.ty := by
    unfold mTy
    rw [m255 _ hra.ty.1 hra.ty.2]
    split
    · rename_i hlt
      have := of_decide_eq_true hlt
      rw [Int.tmod_eq_emod_of_nonneg hra.ty.1]
      have := hra.ty.1
      omega
    · rfl
  have hpr : prioB g = mW g.ty g.fl := by unfold prioB has mW; rfl
  have e : madeF (wholeF g) = madeT (wholeF g) g.ty g.fl := by
    unfold madeF
    show madeT (wholeF g) (mTy (decide (g.ty < 10)) g.ty) (Go.bits .and .i64 g.fl (kFl (mTy (decide (g.ty < 10)) g.ty))) = _
    rw [hty, hfl.1]
  rw [e]
  have hs := ho.st
  refine fr_ext rfl rfl ?_ ?_ ?_ ?_ ?_ ?_ ?_ ?_ ?_
  · show mSt g.ty g.st = g.st
    have hm : Go.bits .and .i64 g.st 2147483647 = g.st := m31 _ hra.st.1 hra.st.2
    unfold stB at hs
    have e1 : mSt1 g.ty g.st = g.st := by
      unfold mSt1
      split
      · exact hm
      · rename_i hq
        unfold mS1 at hq
        simp only [Bool.or_eq_true, decide_eq_true_eq, beq_iff_eq] at hq
        have hk : kSt g.ty = 1 := by
          have : g.ty = 4 ∨ g.ty = 6 ∨ g.ty = 7 := by omega
          rcases this with h | h | h <;> rw [h] <;> rfl
        rw [if_neg (by omega), if_pos hk] at hs
        exact (beq_iff_eq.mp hs).symm
    unfold mSt
    rw [e1]
    split
    · rename_i hq
      unfold mS2 at hq
      simp only [Bool.and_eq_true, Bool.or_eq_true, decide_eq_true_eq, beq_iff_eq] at hq
      have hk : kSt g.ty = 0 := by
        have h0 := hra.ty.1
        have : g.ty = 0 ∨ g.ty = 1 ∨ g.ty = 2 ∨ g.ty = 3 ∨ g.ty = 5 ∨ g.ty = 9 := by omega
        rcases this with h | h | h | h | h | h <;> rw [h] <;> rfl
      rw [if_pos hk, hq.2] at hs
      exact absurd hs (by decide)
    · rfl
  · show mDa g.ty g.da = g.da
    have e1 : mD1 g.ty g.da = g.da := by
      unfold mD1 mD0
      by_cases h9 : 9 < g.ty
      · rw [if_pos h9]
      · rw [if_neg h9]
        by_cases h0 : g.ty = 0 ∨ g.ty = 1 ∨ g.ty = 5 ∨ g.ty = 7 ∨ g.ty = 9
        · rw [if_pos h0]
        · rw [if_neg h0]
          by_cases h6 : g.ty = 6
          · rw [if_pos h6]
            have hs8 := ho.ping h6
            apply ba_ext
            rw [ex_list, ByteArray.data_append, Array.toList_append, List.drop_zero, Nat.sub_zero, List.take_append_of_le_length (by rw [← ba_size]; omega), List.take_of_length_le (by rw [← ba_size]; omega)]
          · rw [if_neg h6]
            have := hra.ty.1
            exact (n4 (by omega)).symm
    unfold mDa
    rw [e1, if_neg (by omega)]
  · show (if mP g.ty g.fl = true then Go.bits .and .i64 g.pad 255 else 0) = g.pad
    have hpd := ho.pad
    unfold ownPad at hpd
    split
    · exact m255 _ hra.pad.1 hra.pad.2
    · rename_i hq
      have : padB g = false := by
        cases hb : padB g
        · rfl
        · exfalso
          apply hq
          unfold padB at hb
          simp only [Bool.and_eq_true, decide_eq_true_eq] at hb
          have h8 := kFl8 g.ty g.fl hra.ty.1 hfl.2.1 hfl.2.2 (by rw [hfl.1]; exact hb.2)
          have h0 := hra.ty.1
          have hcases : g.ty = 0 ∨ g.ty = 1 ∨ g.ty = 2 ∨ g.ty = 3 ∨ g.ty = 4 ∨ g.ty = 5 ∨ g.ty = 6 ∨ g.ty = 7 ∨ g.ty = 8 ∨ g.ty = 9 := by omega
          unfold mP
          have hb2 : (Go.bits .and .i64 g.fl 8 != 0) = true := hb.2
          rw [hb2]
          rcases hcases with h | h | h | h | h | h | h | h | h | h <;> rw [h] at h8 ⊢ <;> first | rfl | exact absurd h8 (by decide)
      rw [if_neg (by rw [this]; decide)] at hpd
      exact hpd
  · show (if mW g.ty g.fl = true then Go.bits .and .i64 g.dep 2147483647 else 0) = g.dep
    split
    · exact m31 _ ho.dr.1 ho.dr.2
    · rename_i hq
      exact (n3 (by rw [hpr]; exact Bool.eq_false_iff.mpr hq)).1.symm
  · show (if mW g.ty g.fl = true then (Go.bits .and .i64 (wholeF g).wt 256 != 0) else false) = g.ex
    split
    · rename_i hq
      have hw := ho.pw (hpr.trans hq)
      have hb := b256 (g.wt - 1) (by omega) (by omega)
      show (Go.bits .and .i64 (if 0 < g.wt then (if g.ex = true then g.wt - 1 + 256 else g.wt - 1) else g.wt) 256 != 0) = g.ex
      rw [if_pos (by omega)]
      cases hx : g.ex
      · rw [if_neg (by decide)]
        exact hb.1
      · rw [if_pos rfl]
        exact hb.2.1
    · rename_i hq
      exact (n3 (by rw [hpr]; exact Bool.eq_false_iff.mpr hq)).2.1.symm
  · show (if mW g.ty g.fl = true then Go.bits .and .i64 (wholeF g).wt 255 + 1 else 0) = g.wt
    split
    · rename_i hq
      have hw := ho.pw (hpr.trans hq)
      have hb := b256 (g.wt - 1) (by omega) (by omega)
      show Go.bits .and .i64 (if 0 < g.wt then (if g.ex = true then g.wt - 1 + 256 else g.wt - 1) else g.wt) 255 + 1 = g.wt
      rw [if_pos (by omega)]
      cases hx : g.ex
      · rw [if_neg (by decide), m255 _ (by omega) (by omega)]
        omega
      · rw [if_pos rfl, hb.2.2]
        omega
    · rename_i hq
      exact (n3 (by rw [hpr]; exact Bool.eq_false_iff.mpr hq)).2.2.symm
  · show (if mC g.ty = true then Go.bits .and .i64 g.co 4294967295 else 0) = g.co
    split
    · exact m32 _ hra.co.1 hra.co.2
    · rename_i hq
      unfold mC at hq
      simp only [Bool.or_eq_true, beq_iff_eq] at hq
      exact (n1 (by omega) (by omega)).symm
  · show (if mL g.ty = true then Go.bits .and .i64 g.la 2147483647 else 0) = g.la
    split
    · exact m31 _ hra.la.1 hra.la.2
    · rename_i hq
      unfold mL at hq
      simp only [Bool.or_eq_true, beq_iff_eq] at hq
      exact (n2 (by omega) (by omega) (by omega)).symm
  · show (if mQ g.ty g.fl = true then fewL g.ps else []) = g.ps
    split
    · rename_i hq
      unfold mQ at hq
      simp only [Bool.and_eq_true, beq_iff_eq] at hq
      have hpar := ho.par hq.1
      unfold parB at hpar
      simp only [Bool.and_eq_true] at hpar
      exact fewL_same _ hpar.2 hp
    · rename_i hq
      unfold mQ at hq
      simp only [Bool.and_eq_true, beq_iff_eq] at hq
      by_cases h4 : g.ty = 4
      · have hpar := ho.par h4
        unfold parB at hpar
        simp only [Bool.and_eq_true] at hpar
        have hk : kFl g.ty = 1 := by rw [h4]; rfl
        have h1 := ack0 g.fl (by rw [← hk]; exact hfl.1) (fun h => hq ⟨h4, h⟩)
        have hl := hpar.1
        rw [h1] at hl
        have h0 : g.ps = [] := by simpa using hl
        exact h0.symm
      · exact (ho.none h4).symm
/-- The same, as the walk wants it. -/
structure OneV (b : ByteArray) (most : Int) (g : Fr) (s : ByteArray) : Prop where
  right : rightB g = true
  fl : Go.bits .and .i64 g.fl (kFl g.ty) = g.fl ∧ 0 ≤ g.fl ∧ g.fl ≤ 255
  rd : rdF b most = ⟨g, (s.size : Int), 0, 0⟩
  wr : wr g = (0, s.data.toList)
  nine : 9 ≤ s.size
  small : s.size ≤ 65545
  bsz : s.size ≤ b.size
  byte : ∀ k : Nat, k < 4 → bt s (k : Int) = bt b (k : Int)
  flg : Go.bits .and .i64 (bt b 4) (kFl g.ty) = g.fl
  back : rdF s most = ⟨g, (s.size : Int), 0, 0⟩
  held : Held (b.extract 9 s.size) g.da
  da : g.da.size ≤ 65536
  ps : g.ps.length ≤ 65536
theorem OneW.v {b : ByteArray} {most : Int} {g : Fr} {n : Nat} {s : ByteArray} (h : OneW b most g n s) : OneV b most g s := by
  have hz := h.size
  have e : (9 : Int) + n = (s.size : Int) := by omega
  refine ⟨h.right, h.fl, by rw [h.rd, e], h.wr, by omega, by have := h.le; omega, by rw [hz]; exact h.bsz, fun k hk => ?_, h.flg, by rw [h.back, e], by rw [hz]; exact h.held, h.da, h.ps⟩
  have hb := h.bsz
  have h4 := congrArg (fun l => l[k]?) h.four
  simp only [List.getElem?_take, if_pos hk] at h4
  have hs : k < s.size := by omega
  have hbk : k < b.size := by omega
  obtain ⟨x, hx⟩ : ∃ x, s.data.toList[k]? = some x := ⟨_, List.getElem?_eq_getElem (by rw [← ba_size]; exact hs)⟩
  rw [bt_get s k x hx, bt_get b k x (h4 ▸ hx)]
theorem one_v (b : ByteArray) (most : Int) : (∃ c : Int, (c = 0 ∨ c = 1 ∨ c = 6) ∧ rdF b most = .bad c) ∨ (∃ (n : Nat) (st : Int), rdF b most = ⟨Fr.zero, (n : Int), 6, st⟩ ∧ 0 < st ∧ bt b 3 = 2 ∧ 9 ≤ n ∧ n ≤ b.size) ∨ ∃ g s, OneV b most g s := by
  rcases one_w b most with h | h | ⟨g, n, s, h⟩
  · exact .inl h
  · exact .inr (.inl h)
  · exact .inr (.inr ⟨g, s, h.v⟩)
/-- Made of a whole right frame is the frame. -/
theorem made_same (g : Fr) (h : rightB g = true) (hfl : Go.bits .and .i64 g.fl (kFl g.ty) = g.fl ∧ 0 ≤ g.fl ∧ g.fl ≤ 255) (hd : g.da.size ≤ 60000) (hp : g.ps.length ≤ 2730) (A : Option Addr) (c : Nat) (w : World) (hps : Kd.C k32 w A g.ps.length g.ps) (hc : g.ps.length ≤ c) :
    Calls Tryd.prog 25 #[.agg ((wholeF g).cells A c)] w fun e w' => ∃ A' c', e = .returned (.agg (g.cells A' c')) ∧ (Kd.C k32 w' A' g.ps.length g.ps ∧ g.ps.length ≤ c') ∧ Below w.heap.size w w' := by
  have hr : (wholeF g).ps = g.ps := rfl
  have hda : (wholeF g).da = g.da := rfl
  refine (made_calls (wholeF g) A c w (by rw [hr]; exact hps) (by rw [hr]; exact hc) (by rw [hr]; omega) (by rw [hda]; omega)).mono ?_
  rintro e w' ⟨A', c', e1, hR, hb⟩
  rw [made_whole g h hfl hd hp] at e1 hR
  have h2 := Kd.R_reads' hR
  exact ⟨A', c', e1, ⟨h2.2.2, h2.2.1⟩, hb⟩
end Go.Proofs.YtoffhlbdfhhhjaaDoor.Fr
