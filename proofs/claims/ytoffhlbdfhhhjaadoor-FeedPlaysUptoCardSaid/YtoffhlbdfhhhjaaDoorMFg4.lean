/- What is written is read back: plain facts. No condition. -/
import Derived.Test.YtoffhlbdfhhhjaaDoorMFg3
namespace Go.Proofs.YtoffhlbdfhhhjaaDoor.Fr
open Go Go.RowKit Go.Proofs.YtoffhlbdfhhhjaaDoorW.PrintWords Go.Proofs.YtoffhlbdfhhhjaaDoorW.PrintLast Go.Proofs.YtoffhlbdfhhhjaaDoorW.PrintMore Go.Proofs.YtoffhlbdfhhhjaaDoor.QL
set_option linter.unusedSimpArgs false
set_option linter.unusedVariables false
set_option maxHeartbeats 40000000
set_option maxRecDepth 100000
theorem and_le (x : Int) (m : Nat) (hm : m < 9223372036854775808) : 0 ≤ Go.bits .and .i64 x (m : Int) ∧ Go.bits .and .i64 x (m : Int) ≤ (m : Int) := by
  have e : Go.bits .and .i64 x (m : Int) = IntKind.i64.wrap (((BitVec.ofInt 64 x).toNat &&& m : Nat) : Int) := by
    have h64 : m % 2 ^ 64 = m := Nat.mod_eq_of_lt (by omega)
    show IntKind.i64.wrap _ = _
    simp only [BitVec.ofInt_natCast, BitVec.toNat_and, BitVec.toNat_ofNat]
    show IntKind.i64.wrap ((((BitVec.ofInt 64 x).toNat &&& (m % 2 ^ 64) : Nat)) : Int) = _
    rw [h64]
  have h : (BitVec.ofInt 64 x).toNat &&& m ≤ m := Nat.and_le_right
  rw [e, IntWalk.i64_in _ (by omega)]
  omega
theorem and_255 (x : Int) : 0 ≤ Go.bits .and .i64 x 255 ∧ Go.bits .and .i64 x 255 ≤ 255 := and_le x 255 (by decide)
def few1 (p : S32) : S32 := ⟨Go.bits .and .i64 p.f0 65535, Go.bits .and .i64 p.f1 4294967295⟩
def fewL (l : List S32) : List S32 := (l.take 2730).map few1
end Go.Proofs.YtoffhlbdfhhhjaaDoor.Fr
namespace Go.Proofs.YtoffhlbdfhhhjaaDoor.Fr
open Go Go.RowKit Go.Proofs.YtoffhlbdfhhhjaaDoorW.PrintWords Go.Proofs.YtoffhlbdfhhhjaaDoorW.PrintLast Go.Proofs.YtoffhlbdfhhhjaaDoorW.PrintMore Go.Proofs.YtoffhlbdfhhhjaaDoor.QL
set_option linter.unusedSimpArgs false
set_option linter.unusedVariables false
set_option maxHeartbeats 40000000
set_option maxRecDepth 100000
structure Right (f : Fr) : Prop where
  ty : 0 ≤ f.ty ∧ f.ty ≤ 255
  fl : Go.bits .andNot .i64 f.fl (kFl f.ty) = 0
  st : 0 ≤ f.st ∧ f.st ≤ 2147483647
  pad : 0 ≤ f.pad ∧ f.pad ≤ 255
  wt : 0 ≤ f.wt ∧ f.wt ≤ 256
  co : 0 ≤ f.co ∧ f.co ≤ 4294967295
  la : 0 ≤ f.la ∧ f.la ≤ 2147483647
theorem right_all {f : Fr} (h : rightB f = true) : Right f := by
  unfold rightB headB numB sameB at h
  simp only [Bool.and_eq_true] at h
  obtain ⟨⟨⟨⟨⟨⟨⟨⟨h1, h2⟩, h3⟩, h4⟩, h5⟩, h6⟩, h7⟩, ⟨⟨h8, h9⟩, h10⟩, h11⟩, ⟨⟨⟨⟨⟨s1, s2⟩, s3⟩, s4⟩, s5⟩, s6⟩, s7⟩ := h
  refine ⟨inR_iff h1, by simpa using h2, inR_iff h3, inR_iff h8, ?_, inR_iff h10, inR_iff h11⟩
  cases hp : prioB f
  · have e : f.wt = 0 := by
      have := (beq_iff_eq.mp s4)
      unfold ownWt at this
      rw [hp] at this
      exact this.symm
    omega
  · rw [hp] at h5
    have := inR_iff (n := f.wt) (a := 1) (b := 256) (by simpa using h5)
    omega
theorem kFl_range (t : Int) : 0 ≤ kFl t ∧ kFl t ≤ 255 := by
  unfold kFl
  repeat' split
  all_goals omega
end Go.Proofs.YtoffhlbdfhhhjaaDoor.Fr
namespace Go.Proofs.YtoffhlbdfhhhjaaDoor.Fr
open Go Go.RowKit Go.Proofs.YtoffhlbdfhhhjaaDoorW.PrintWords Go.Proofs.YtoffhlbdfhhhjaaDoorW.PrintLast Go.Proofs.YtoffhlbdfhhhjaaDoorW.PrintMore Go.Proofs.YtoffhlbdfhhhjaaDoor.QL
set_option linter.unusedSimpArgs false
set_option linter.unusedVariables false
theorem byte_nat (v : Int) (h : 0 ≤ v) (h2 : v < 256) : ((UInt8.ofNat v.toNat).toNat : Int) = v := by
  rw [UInt8.toNat_ofNat']
  omega
theorem be_num (k : Nat) (v : Int) (hk : k ≤ 4) (h0 : 0 ≤ v) (h1 : v < 256 ^ k) : numFrom 0 (be k v) = v := by
  have b (x : Int) : ((UInt8.ofNat (x % 256).toNat).toNat : Int) = x % 256 := byte_nat _ (by omega) (by omega)
  obtain rfl | rfl | rfl | rfl | rfl : k = 0 ∨ k = 1 ∨ k = 2 ∨ k = 3 ∨ k = 4 := by omega
  all_goals
    simp only [be, numFrom, b]
    omega
/-- A ByteArray by its list. -/
theorem ba_ext {a b : ByteArray} (h : a.data.toList = b.data.toList) : a = b := by
  cases a; cases b
  simp only [ByteArray.mk.injEq]
  exact Array.toList_inj.1 h
theorem ba_size (a : ByteArray) : a.size = a.data.toList.length := rfl
theorem ex_list (p : ByteArray) (i j : Nat) : (p.extract i j).data.toList = (p.data.toList.drop i).take (j - i) := by
  rw [ByteArray.data_extract, Array.toList_extract, List.extract_eq_take_drop]
theorem bt_get (s : ByteArray) (i : Nat) (x : UInt8) (h : s.data.toList[i]? = some x) : bt s (i : Int) = (x.toNat : Int) := by
  obtain ⟨hi, hx⟩ := List.getElem?_eq_some_iff.1 h
  rw [bt_list s i (by rw [ba_size]; exact hi), hx]
theorem num_list (s : ByteArray) (l : List UInt8) (h : s.data.toList = l) : num s = numFrom 0 l := by
  unfold num
  rw [h]
/-- A flag set within a type's flags is its own part of them. -/
theorem and_of_andNot (x k : Int) (h0 : -9223372036854775808 ≤ x) (h1 : x ≤ 9223372036854775807) (h : Go.bits .andNot .i64 x k = 0) : Go.bits .and .i64 x k = x := by
  have e1 : Go.bits .andNot .i64 x k = IntKind.i64.wrap ((BitVec.ofInt 64 x &&& ~~~ BitVec.ofInt 64 k).toNat : Int) := rfl
  have e2 : Go.bits .and .i64 x k = IntKind.i64.wrap ((BitVec.ofInt 64 x &&& BitVec.ofInt 64 k).toNat : Int) := rfl
  have hlt := (BitVec.ofInt 64 x &&& ~~~ BitVec.ofInt 64 k).isLt
  have hz : BitVec.ofInt 64 x &&& ~~~ BitVec.ofInt 64 k = 0 := by
    refine BitVec.eq_of_toNat_eq ?_
    rw [e1, IntKind.wrap_i64] at h
    show (BitVec.ofInt 64 x &&& ~~~ BitVec.ofInt 64 k).toNat = 0
    omega
  have hb : BitVec.ofInt 64 x &&& BitVec.ofInt 64 k = BitVec.ofInt 64 x := by
    ext i hi
    have := congrArg (fun v => v.getLsbD i) hz
    simp only [BitVec.getLsbD_and, BitVec.getLsbD_not] at this
    simp only [← BitVec.getLsbD_eq_getElem, BitVec.getLsbD_and]
    revert this
    cases (BitVec.ofInt 64 x).getLsbD i <;> cases (BitVec.ofInt 64 k).getLsbD i <;> simp [hi]
  rw [e2, hb, IntKind.wrap_i64, BitVec.toNat_ofInt]
  omega
theorem right_fl {f : Fr} (h : rightB f = true) (h0 : -9223372036854775808 ≤ f.fl) (h1 : f.fl ≤ 9223372036854775807) : Go.bits .and .i64 f.fl (kFl f.ty) = f.fl ∧ 0 ≤ f.fl ∧ f.fl ≤ 255 := by
  have e := and_of_andNot f.fl (kFl f.ty) h0 h1 (right_all h).fl
  have hk := kFl_range f.ty
  obtain ⟨b, hb⟩ := Int.eq_ofNat_of_zero_le hk.1
  have hr := and_le f.fl b (by omega)
  rw [← hb, e] at hr
  exact ⟨e, hr.1, by omega⟩
end Go.Proofs.YtoffhlbdfhhhjaaDoor.Fr
namespace Go.Proofs.YtoffhlbdfhhhjaaDoor.Fr
open Go Go.RowKit Go.Proofs.YtoffhlbdfhhhjaaDoorW.PrintWords Go.Proofs.YtoffhlbdfhhhjaaDoorW.PrintLast Go.Proofs.YtoffhlbdfhhhjaaDoorW.PrintMore Go.Proofs.YtoffhlbdfhhhjaaDoor.QL
set_option linter.unusedSimpArgs false
set_option linter.unusedVariables false
structure Own (f : Fr) : Prop where
  pad : ownPad f = f.pad
  dep : ownDep f = f.dep
  ex : ownEx f = f.ex
  wt : ownWt f = f.wt
  co : ownCo f = f.co
  la : ownLa f = f.la
  da : ownDa f = f.da
  st : stB f.ty f.st = true
  pw : prioB f = true → 1 ≤ f.wt ∧ f.wt ≤ 256
  dr : 0 ≤ f.dep ∧ f.dep ≤ 2147483647
  par : f.ty = 4 → parB f = true
  ping : f.ty = 6 → f.da.size = 8
  none : f.ty ≠ 4 → f.ps = []
theorem right_own {f : Fr} (h : rightB f = true) : Own f := by
  unfold rightB headB lenB numB sameB at h
  simp only [Bool.and_eq_true] at h
  obtain ⟨⟨⟨⟨⟨⟨⟨⟨h1, h2⟩, h3⟩, h4⟩, h5⟩, h6⟩, h7⟩, ⟨⟨h8, h9⟩, h10⟩, h11⟩, ⟨⟨⟨⟨⟨s1, s2⟩, s3⟩, s4⟩, s5⟩, s6⟩, s7⟩ := h
  refine ⟨beq_iff_eq.mp s1, beq_iff_eq.mp s2, beq_iff_eq.mp s3, beq_iff_eq.mp s4, beq_iff_eq.mp s5, beq_iff_eq.mp s6, ?_, h4, fun hp => ?_, inR_iff h9, fun h => ?_, fun h => ?_, fun h => ?_⟩
  · have := beq_iff_eq.mp s7
    rw [ByteArray.toList_eq, ByteArray.toList_eq] at this
    exact ba_ext this
  · rw [hp] at h5
    exact inR_iff (n := f.wt) (a := 1) (b := 256) (by simpa using h5)
  · rw [h] at h6
    simpa using h6
  · rw [h] at h7
    have h7' : f.da.size = 8 ∧ f.ps = [] := by simpa using h7
    exact h7'.1
  · simp only [Bool.not_or, Bool.not_and, Bool.and_eq_true, Bool.or_eq_true, Bool.not_eq_true', decide_eq_false_iff_not] at h7
    rcases h7.2 with h' | h'
    · simp at h'
      exact absurd h' h
    · exact List.eq_nil_of_length_eq_zero (by omega)
/-- The frame that the head and the padding tell. -/
def base (f : Fr) : Fr := ⟨f.ty, f.fl, f.st, ByteArray.empty, f.pad, 0, false, 0, 0, 0, []⟩
theorem take_be (k : Nat) (v : Int) (r : List UInt8) : (be k v ++ r).take k = be k v := by
  have := be_length k v
  rw [List.take_append_of_le_length (by omega), List.take_of_length_le (by omega)]
theorem drop_be (k : Nat) (v : Int) (r : List UInt8) : (be k v ++ r).drop k = r := by
  have := be_length k v
  rw [List.drop_append_of_le_length (by omega), List.drop_of_length_le (by omega), List.nil_append]
theorem num_head (p : ByteArray) (k : Nat) (v : Int) (r : List UInt8) (hk : k ≤ 4) (h0 : 0 ≤ v) (h1 : v < 256 ^ k) (h : p.data.toList = be k v ++ r) : num (p.extract 0 k) = v := by
  rw [num_list _ (be k v) (by rw [ex_list, h, List.drop_zero, Nat.sub_zero, take_be])]
  exact be_num k v hk h0 h1
theorem tail_list (p : ByteArray) (k : Nat) (v : Int) (r : List UInt8) (h : p.data.toList = be k v ++ r) : (p.extract k p.size).data.toList = r := by
  rw [list_extract, h, drop_be]
theorem weight_back (f : Fr) (p : ByteArray) (r : List UInt8) (hw : 1 ≤ f.wt ∧ f.wt ≤ 256) (hd : 0 ≤ f.dep ∧ f.dep ≤ 2147483647) (h : p.data.toList = weight f ++ r) :
    num (p.extract 0 4) % 2147483648 = f.dep ∧ decide (128 ≤ bt p 0) = f.ex ∧ bt p 4 + 1 = f.wt ∧ (p.extract 5 p.size).data.toList = r := by
  obtain ⟨v, hv⟩ : ∃ v, (f.dep + if f.ex = true then 2147483648 else 0) = v := ⟨_, rfl⟩
  have hvr : 0 ≤ v ∧ v < 4294967296 := by
    rw [← hv]
    split <;> omega
  unfold weight at h
  rw [hv, List.append_assoc] at h
  have hn := num_head p 4 v _ (by decide) hvr.1 (by omega) h
  have b (x : Int) : ((UInt8.ofNat (x % 256).toNat).toNat : Int) = x % 256 := byte_nat _ (by omega) (by omega)
  have h0 : bt p 0 = v / 16777216 % 256 := by
    have := bt_get p 0 (UInt8.ofNat (v / 16777216 % 256).toNat) (by rw [h]; rfl)
    rw [b] at this
    exact this
  have h4 : bt p 4 = (f.wt - 1) / 1 % 256 := by
    have := bt_get p 4 (UInt8.ofNat ((f.wt - 1) / 1 % 256).toNat) (by rw [h]; rfl)
    rw [b] at this
    exact this
  refine ⟨?_, ?_, ?_, ?_⟩
  · rw [hn, ← hv]
    split <;> omega
  · rw [h0, ← hv]
    cases f.ex
    · simp
      omega
    · simp
      omega
  · rw [h4]
    omega
  · rw [list_extract, h]
    have e : be 4 v ++ (be 1 (f.wt - 1) ++ r) = (be 4 v ++ be 1 (f.wt - 1)) ++ r := by rw [List.append_assoc]
    rw [e, List.drop_append_of_le_length (by simp [be_length]), List.drop_of_length_le (by simp [be_length]), List.nil_append]
theorem pars_back (ps : List S32) (r : List UInt8) (h : (ps.all fun p => inR p.f0 0 65535 && inR p.f1 0 4294967295) = true) : pars ps.length (params ps ++ r) = ps := by
  induction ps with
  | nil => rfl
  | cons p t ih =>
    simp only [List.all_cons, Bool.and_eq_true] at h
    have h0 := inR_iff h.1.1
    have h1 := inR_iff h.1.2
    have e : params (p :: t) ++ r = be 2 p.f0 ++ (be 4 p.f1 ++ (params t ++ r)) := by
      show (be 2 p.f0 ++ be 4 p.f1 ++ params t) ++ r = _
      simp only [List.append_assoc]
    show pars (t.length + 1) _ = _
    rw [e]
    unfold pars
    rw [take_be, drop_be, take_be, be_num 2 p.f0 (by decide) h0.1 (by omega), be_num 4 p.f1 (by decide) h1.1 (by omega)]
    have e2 : (be 2 p.f0 ++ (be 4 p.f1 ++ (params t ++ r))).drop 6 = params t ++ r := by
      have e3 : be 2 p.f0 ++ (be 4 p.f1 ++ (params t ++ r)) = (be 2 p.f0 ++ be 4 p.f1) ++ (params t ++ r) := by simp only [List.append_assoc]
      rw [e3, List.drop_append_of_le_length (by simp [be_length]), List.drop_of_length_le (by simp [be_length]), List.nil_append]
    rw [e2, ih h.2]
theorem ownNone (f : Fr) (ho : Own f) : (f.ty ≠ 3 → f.ty ≠ 7 → f.co = 0) ∧ (f.ty ≠ 8 → f.ty ≠ 7 → f.ty ≠ 5 → f.la = 0) ∧ (prioB f = false → f.dep = 0 ∧ f.ex = false ∧ f.wt = 0) ∧ (f.ty = 3 ∨ f.ty = 4 ∨ f.ty = 2 ∨ f.ty = 8 → f.da = ByteArray.empty) := by
  refine ⟨fun h3 h7 => ?_, fun h8 h7 h5 => ?_, fun hp => ⟨?_, ?_, ?_⟩, fun h => ?_⟩
  · rw [← ho.co]
    exact if_neg (by omega)
  · rw [← ho.la]
    exact if_neg (by omega)
  · rw [← ho.dep]
    exact if_neg (by rw [hp]; decide)
  · rw [← ho.ex]
    exact if_neg (by rw [hp]; decide)
  · rw [← ho.wt]
    exact if_neg (by rw [hp]; decide)
  · rw [← ho.da]
    exact if_pos h
theorem fr_ext {a b : Fr} (h0 : a.ty = b.ty) (h1 : a.fl = b.fl) (h2 : a.st = b.st) (h3 : a.da = b.da) (h4 : a.pad = b.pad) (h5 : a.dep = b.dep) (h6 : a.ex = b.ex) (h7 : a.wt = b.wt) (h8 : a.co = b.co) (h9 : a.la = b.la) (h10 : a.ps = b.ps) : a = b := by
  cases a; cases b
  simp only at h0 h1 h2 h3 h4 h5 h6 h7 h8 h9 h10
  subst h0 h1 h2 h3 h4 h5 h6 h7 h8 h9 h10
  rfl
theorem takes_back (f : Fr) (h : rightB f = true) (p : ByteArray) (hp : p.data.toList = layB f) : takes (base f) p = some f := by
  have ho := right_own h
  have hra := right_all h
  obtain ⟨n1, n2, n3, n4⟩ := ownNone f ho
  unfold layB at hp
  by_cases t1 : f.ty = 1
  · rw [if_pos t1] at hp
    have hpr : prioB f = has f.fl 32 := by unfold prioB; rw [t1]; simp
    have e : takes (base f) p = some (headersF (base f) p) := if_pos t1
    rw [e]
    refine congrArg some ?_
    cases hh : has f.fl 32
    · rw [if_neg (by rw [hh]; decide), List.nil_append] at hp
      have e2 : headersF (base f) p = { base f with da := p } := if_neg (by show ¬ has f.fl 32 = true; rw [hh]; decide)
      obtain ⟨a1, a2, a3⟩ := n3 (hpr.trans hh)
      rw [e2]
      exact fr_ext rfl rfl rfl (ba_ext hp) rfl a1.symm a2.symm a3.symm (n1 (by omega) (by omega)).symm (n2 (by omega) (by omega) (by omega)).symm (ho.none (by omega)).symm
    · rw [if_pos hh] at hp
      have e2 : headersF (base f) p = { wtF (base f) p with da := p.extract 5 p.size } := if_pos hh
      obtain ⟨a1, a2, a3, a4⟩ := weight_back f p f.da.data.toList (ho.pw (hpr.trans hh)) ho.dr hp
      rw [e2]
      exact fr_ext rfl rfl rfl (ba_ext a4) rfl a1 a2 a3 (n1 (by omega) (by omega)).symm (n2 (by omega) (by omega) (by omega)).symm (ho.none (by omega)).symm
  rw [if_neg t1] at hp
  by_cases t2 : f.ty = 2
  · rw [if_pos t2] at hp
    have hpr : prioB f = true := by unfold prioB; rw [t2]; rfl
    have hs : p.size = 5 := by rw [ba_size, hp, weight_length]
    have e : takes (base f) p = some (wtF (base f) p) := by
      unfold takes
      rw [if_neg (by exact t1), if_pos (by exact t2), if_pos hs]
    rw [e]
    refine congrArg some ?_
    obtain ⟨a1, a2, a3, a4⟩ := weight_back f p [] (ho.pw hpr) ho.dr (by rw [hp, List.append_nil])
    exact fr_ext rfl rfl rfl (n4 (by omega)).symm rfl a1 a2 a3 (n1 (by omega) (by omega)).symm (n2 (by omega) (by omega) (by omega)).symm (ho.none (by omega)).symm
  rw [if_neg t2] at hp
  have hpr : prioB f = false := by
    unfold prioB
    rw [beq_eq_false_iff_ne.mpr t1, beq_eq_false_iff_ne.mpr t2]
    rfl
  obtain ⟨a1, a2, a3⟩ := n3 hpr
  by_cases t3 : f.ty = 3
  · rw [if_pos t3] at hp
    have hs : p.size = 4 := by rw [ba_size, hp, be_length]
    have e : takes (base f) p = some { base f with co := num p } := by
      unfold takes
      rw [if_neg (by exact t1), if_neg (by exact t2), if_pos (by exact t3), if_pos hs]
    rw [e]
    refine congrArg some ?_
    have hn : num p = f.co := by rw [num_list p _ hp]; exact be_num 4 f.co (by decide) hra.co.1 (by have := hra.co.2; omega)
    exact fr_ext rfl rfl rfl (n4 (by omega)).symm rfl a1.symm a2.symm a3.symm hn (n2 (by omega) (by omega) (by omega)).symm (ho.none (by omega)).symm
  rw [if_neg t3] at hp
  by_cases t4 : f.ty = 4
  · rw [if_pos t4] at hp
    have hpar := ho.par t4
    unfold parB at hpar
    simp only [Bool.and_eq_true] at hpar
    have hs : p.size = 6 * f.ps.length := by rw [ba_size, hp, params_length]
    have hack : ¬ (has f.fl 1 = true ∧ 0 < p.size) := by
      rintro ⟨b1, b2⟩
      have hl := hpar.1
      rw [b1] at hl
      have h0 : f.ps = [] := by simpa using hl
      rw [h0] at hs
      have h1 : p.size = 0 := hs
      omega
    have e : takes (base f) p = some { base f with ps := pars (p.size / 6) p.data.toList } := by
      unfold takes
      rw [if_neg (by exact t1), if_neg (by exact t2), if_neg (by exact t3), if_pos (by exact t4), if_pos ⟨by omega, hack⟩]
    rw [e]
    refine congrArg some ?_
    have hn : pars (p.size / 6) p.data.toList = f.ps := by
      rw [hs, Nat.mul_div_cancel_left _ (by decide), hp]
      have := pars_back f.ps [] hpar.2
      rwa [List.append_nil] at this
    exact fr_ext rfl rfl rfl (n4 (by omega)).symm rfl a1.symm a2.symm a3.symm (n1 (by omega) (by omega)).symm (n2 (by omega) (by omega) (by omega)).symm hn
  rw [if_neg t4] at hp
  have hps := (ho.none t4).symm
  by_cases t5 : f.ty = 5
  · rw [if_pos t5] at hp
    have e : takes (base f) p = some (promiseF (base f) p) := by
      unfold takes
      rw [if_neg (by exact t1), if_neg (by exact t2), if_neg (by exact t3), if_neg (by exact t4), if_pos (by exact t5)]
    rw [e]
    refine congrArg some ?_
    have hn : num (p.extract 0 4) % 2147483648 = f.la := by rw [num_head p 4 f.la _ (by decide) hra.la.1 (by have := hra.la.2; omega) hp]; have := hra.la; omega
    exact fr_ext rfl rfl rfl (ba_ext (tail_list p 4 _ _ hp)) rfl a1.symm a2.symm a3.symm (n1 (by omega) (by omega)).symm hn hps
  rw [if_neg t5] at hp
  by_cases t7 : f.ty = 7
  · rw [if_pos t7, List.append_assoc] at hp
    have hs : 8 ≤ p.size := by rw [ba_size, hp]; simp [be_length]; omega
    have e : takes (base f) p = some (goAwayF (base f) p) := by
      unfold takes
      rw [if_neg (by exact t1), if_neg (by exact t2), if_neg (by exact t3), if_neg (by exact t4), if_neg (by exact t5), if_neg (by show ¬ f.ty = 6; omega), if_pos (by exact t7), if_pos hs]
    rw [e]
    refine congrArg some ?_
    have hn : num (p.extract 0 4) % 2147483648 = f.la := by rw [num_head p 4 f.la _ (by decide) hra.la.1 (by have := hra.la.2; omega) hp]; have := hra.la; omega
    have hc : num (p.extract 4 8) = f.co := by
      rw [num_list _ (be 4 f.co) (by rw [ex_list, hp, drop_be, take_be])]
      exact be_num 4 f.co (by decide) hra.co.1 (by have := hra.co.2; omega)
    have hd : (p.extract 8 p.size).data.toList = f.da.data.toList := by
      have e3 : be 4 f.la ++ (be 4 f.co ++ f.da.data.toList) = (be 4 f.la ++ be 4 f.co) ++ f.da.data.toList := by rw [List.append_assoc]
      rw [list_extract, hp, e3, List.drop_append_of_le_length (by simp [be_length]), List.drop_of_length_le (by simp [be_length]), List.nil_append]
    exact fr_ext rfl rfl rfl (ba_ext hd) rfl a1.symm a2.symm a3.symm hc hn hps
  rw [if_neg t7] at hp
  by_cases t8 : f.ty = 8
  · rw [if_pos t8] at hp
    have hs : p.size = 4 := by rw [ba_size, hp, be_length]
    have e : takes (base f) p = some { base f with la := num p % 2147483648 } := by
      unfold takes
      rw [if_neg (by exact t1), if_neg (by exact t2), if_neg (by exact t3), if_neg (by exact t4), if_neg (by exact t5), if_neg (by show ¬ f.ty = 6; omega), if_neg (by exact t7), if_pos (by exact t8), if_pos hs]
    rw [e]
    refine congrArg some ?_
    have hn : num p % 2147483648 = f.la := by rw [num_list p _ hp, be_num 4 f.la (by decide) hra.la.1 (by have := hra.la.2; omega)]; have := hra.la; omega
    exact fr_ext rfl rfl rfl (n4 (by omega)).symm rfl a1.symm a2.symm a3.symm (n1 (by omega) (by omega)).symm hn hps
  rw [if_neg t8] at hp
  have hda := ba_ext hp
  have e : takes (base f) p = some { base f with da := p } := by
    unfold takes
    rw [if_neg (by exact t1), if_neg (by exact t2), if_neg (by exact t3), if_neg (by exact t4), if_neg (by exact t5)]
    by_cases t6 : f.ty = 6
    · rw [if_pos (by exact t6), if_pos (by rw [hda]; exact ho.ping t6)]
    · rw [if_neg (by exact t6), if_neg (by exact t7), if_neg (by exact t8)]
  rw [e]
  exact congrArg some (fr_ext rfl rfl rfl hda rfl a1.symm a2.symm a3.symm (n1 (by omega) (by omega)).symm (n2 (by omega) (by omega) (by omega)).symm hps)
end Go.Proofs.YtoffhlbdfhhhjaaDoor.Fr
namespace Go.Proofs.YtoffhlbdfhhhjaaDoor.Fr
open Go Go.RowKit Go.Proofs.YtoffhlbdfhhhjaaDoorW.PrintWords Go.Proofs.YtoffhlbdfhhhjaaDoorW.PrintLast Go.Proofs.YtoffhlbdfhhhjaaDoorW.PrintMore Go.Proofs.YtoffhlbdfhhhjaaDoor.QL
set_option linter.unusedSimpArgs false
set_option linter.unusedVariables false
theorem aheadI_le (f : Fr) : aheadI f ≤ (if padB f = true then 1 else 0) + aheadR f := by
  show (if has f.fl 8 = true ∧ has (kFl f.ty) 8 = true ∧ f.ty < 10 then (1 : Int) else 0) + aheadR f ≤ _
  by_cases h : has f.fl 8 = true ∧ has (kFl f.ty) 8 = true ∧ f.ty < 10
  · have hp : padB f = true := by unfold padB; rw [decide_eq_true h.2.2, h.1]; rfl
    rw [if_pos h, if_pos hp]
    omega
  · rw [if_neg h]
    split <;> omega
theorem layB_ge (f : Fr) : aheadR f ≤ ((layB f).length : Int) := by
  unfold aheadR layB
  split
  · rename_i h
    rw [if_pos h.1, if_pos h.2, List.length_append, weight_length]
    omega
  · split
    · rename_i h1 h5
      have e : ∀ x : List UInt8, (4 : Int) ≤ ((be 4 f.la ++ x).length : Int) := fun x => by rw [List.length_append, be_length]; omega
      first
        | exact e _
        | (rw [if_neg (by omega), if_neg (by omega), if_neg (by omega), if_neg (by omega), if_pos h5]; exact e _)
        | (rw [if_neg (by omega)]; simp only [h5]; exact e _)
    · omega
/-- The head's bytes. -/
def headL (f : Fr) (n : Nat) : List UInt8 := be 3 (n : Int) ++ be 1 f.ty ++ be 1 f.fl ++ be 4 f.st
theorem headL_length (f : Fr) (n : Nat) : (headL f n).length = 9 := by simp [headL, be_length]
theorem head_back (f : Fr) (hf : rightB f = true) (hfl : Go.bits .and .i64 f.fl (kFl f.ty) = f.fl ∧ 0 ≤ f.fl ∧ f.fl ≤ 255) (n : Nat) (hn : n < 16777216) (b : ByteArray) (r : List UInt8) (hb : b.data.toList = headL f n ++ r) :
    rdN b = n ∧ rd0 b = ⟨f.ty, f.fl, f.st, ByteArray.empty, 0, 0, false, 0, 0, 0, []⟩ ∧ ∀ k, (b.extract 9 (9 + k)).data.toList = r.take k := by
  have hra := right_all hf
  have bb (x : Int) : ((UInt8.ofNat (x % 256).toNat).toNat : Int) = x % 256 := byte_nat _ (by omega) (by omega)
  have hb' : b.data.toList = be 3 (n : Int) ++ (be 1 f.ty ++ (be 1 f.fl ++ (be 4 f.st ++ r))) := by rw [hb]; unfold headL; simp only [List.append_assoc]
  have e3 : bt b 3 = f.ty := by
    have := bt_get b 3 (UInt8.ofNat (f.ty / 1 % 256).toNat) (by rw [hb']; rfl)
    rw [bb] at this
    have h1 := hra.ty
    rw [show ((3 : Nat) : Int) = 3 from rfl] at this
    omega
  have e4 : bt b 4 = f.fl := by
    have := bt_get b 4 (UInt8.ofNat (f.fl / 1 % 256).toNat) (by rw [hb']; rfl)
    rw [bb] at this
    rw [show ((4 : Nat) : Int) = 4 from rfl] at this
    omega
  have e5 : num (b.extract 5 9) = f.st := by
    rw [num_list _ (be 4 f.st) (by rw [ex_list, hb']; rfl)]
    exact be_num 4 f.st (by decide) hra.st.1 (by have := hra.st.2; omega)
  refine ⟨num_head b 3 (n : Int) _ (by decide) (by omega) (by omega) hb', ?_, fun k => ?_⟩
  · unfold rd0
    rw [e3, e4, e5, hfl.1]
    have h2 : f.st % 2147483648 = f.st := by have := hra.st; omega
    rw [h2]
    rfl
  · rw [ex_list, hb, List.drop_append_of_le_length (by rw [headL_length]; exact Nat.le_refl _), List.drop_of_length_le (by rw [headL_length]; exact Nat.le_refl _), List.nil_append]
    congr 1
    omega
theorem rest_back (f : Fr) (hf : rightB f = true) (n : Nat) (hn : (payB f).length = n) (p : ByteArray) (hp : p.data.toList = payB f) : rdRest ⟨f.ty, f.fl, f.st, ByteArray.empty, 0, 0, false, 0, 0, 0, []⟩ n p = ⟨f, 9 + n, 0, 0⟩ := by
  have ho := right_own hf
  have hra := right_all hf
  have hl := layB_ge f
  have ha := aheadI_le f
  obtain ⟨m, hm⟩ : ∃ m : Nat, f.pad = m := ⟨f.pad.toNat, by have := hra.pad; omega⟩
  have hm255 : m ≤ 255 := by have := hra.pad; omega
  have hpay : payB f = (if padB f = true then be 1 f.pad else []) ++ layB f ++ List.replicate m 0 := by unfold payB; rw [hm]; rfl
  rw [hpay] at hp hn
  cases hpb : padB f
  · have hz : f.pad = 0 := by rw [← ho.pad]; exact if_neg (by rw [hpb]; decide)
    have hm0 : m = 0 := by omega
    subst hm0
    rw [hpb] at hp hn ha
    simp only [Bool.false_eq_true, if_false, List.nil_append, List.replicate_zero, List.append_nil] at hp hn ha
    exact rdRest_some _ n p (base f) p f ho.st (by show ¬ (n : Int) < aheadI f; omega) (by rintro ⟨h, _⟩; exact absurd (show padB f = true from h) (by rw [hpb]; decide)) ((if_neg (by show ¬ padB f = true; rw [hpb]; decide)).trans (by unfold base; rw [hz])) (if_neg (by show ¬ padB f = true; rw [hpb]; decide)) (takes_back f hf p hp)
  · rw [hpb] at hp hn ha
    simp only [if_true, List.length_append, be_length, List.length_replicate] at hp hn ha
    have bb (x : Int) : ((UInt8.ofNat (x % 256).toNat).toNat : Int) = x % 256 := byte_nat _ (by omega) (by omega)
    have h0 : bt p 0 = f.pad := by
      have := bt_get p 0 (UInt8.ofNat (f.pad / 1 % 256).toNat) (by rw [hp]; rfl)
      rw [bb] at this
      rw [show ((0 : Nat) : Int) = 0 from rfl] at this
      omega
    have hr : ((n : Int) - bt p 0).toNat = n - m := by rw [h0, hm]; omega
    have hx : (p.extract 1 ((n : Int) - bt p 0).toNat).data.toList = layB f := by
      rw [hr, ex_list, hp]
      have e : (be 1 f.pad ++ layB f ++ List.replicate m 0).drop 1 = layB f ++ List.replicate m 0 := rfl
      rw [e, List.take_append_of_le_length (by omega), List.take_of_length_le (by omega)]
    exact rdRest_some _ n p (base f) (p.extract 1 ((n : Int) - bt p 0).toNat) f ho.st (by show ¬ (n : Int) < aheadI f; omega) (by rintro ⟨_, h⟩; have h : (n : Int) - aheadI f < bt p 0 := h; rw [h0] at h; omega) ((if_pos hpb).trans (by unfold base; rw [h0])) (if_pos hpb) (takes_back f hf _ hx)
/-- A right frame is read back, whatever stands behind it. -/
theorem read_back (f : Fr) (hf : rightB f = true) (hfl : Go.bits .and .i64 f.fl (kFl f.ty) = f.fl ∧ 0 ≤ f.fl ∧ f.fl ≤ 255) (n : Nat) (hn : (payB f).length = n) (most : Int) (hm : (n : Int) ≤ min (max most 16384) 65536) (b : ByteArray) (r : List UInt8) (hb : b.data.toList = headL f n ++ (payB f ++ r)) : rdF b most = ⟨f, 9 + n, 0, 0⟩ := by
  have hsz : b.size = 9 + (n + r.length) := by rw [ba_size, hb, List.length_append, headL_length, List.length_append, hn]
  obtain ⟨h1, h2, h3⟩ := head_back f hf hfl n (by omega) b _ hb
  unfold rdF
  rw [if_neg (by omega), h1, if_neg (by omega), if_neg (by omega), h2, Int.toNat_natCast]
  refine rest_back f hf n hn _ ?_
  rw [h3, List.take_append_of_le_length (by omega), List.take_of_length_le (by omega)]
/-- Cut short, more is wanted. -/
theorem read_cut (f : Fr) (hf : rightB f = true) (hfl : Go.bits .and .i64 f.fl (kFl f.ty) = f.fl ∧ 0 ≤ f.fl ∧ f.fl ≤ 255) (n : Nat) (hn : n < 16777216) (most : Int) (hm : (n : Int) ≤ min (max most 16384) 65536) (b : ByteArray) (r : List UInt8) (hr : r.length < n) (hb : b.data.toList = headL f n ++ r) : rdF b most = .bad 0 := by
  have hsz : b.size = 9 + r.length := by rw [ba_size, hb, List.length_append, headL_length]
  obtain ⟨h1, h2, h3⟩ := head_back f hf hfl n hn b _ hb
  unfold rdF
  rw [if_neg (by omega), h1, if_neg (by omega), if_pos (by omega)]
theorem read_head (b : ByteArray) (most : Int) (h : b.size < 9) : rdF b most = .bad 0 := if_pos h
/-- A payload above what may be is told from nine bytes on. -/
theorem read_above (f : Fr) (hf : rightB f = true) (hfl : Go.bits .and .i64 f.fl (kFl f.ty) = f.fl ∧ 0 ≤ f.fl ∧ f.fl ≤ 255) (n : Nat) (hn : n < 16777216) (most : Int) (hm : min (max most 16384) 65536 < (n : Int)) (b : ByteArray) (r : List UInt8) (hb : b.data.toList = headL f n ++ r) : rdF b most = .bad 6 := by
  have hsz : b.size = 9 + r.length := by rw [ba_size, hb, List.length_append, headL_length]
  obtain ⟨h1, h2, h3⟩ := head_back f hf hfl n hn b _ hb
  unfold rdF
  rw [if_neg (by omega), h1, if_pos hm]
theorem wr_bytes (f : Fr) (hf : rightB f = true) (n : Nat) (hn : (payB f).length = n) (h : n ≤ 65536) : wr f = (0, headL f n ++ payB f) := by
  unfold wr headL
  rw [if_pos hf, if_neg (by omega), hn]
end Go.Proofs.YtoffhlbdfhhhjaaDoor.Fr
namespace Go.Proofs.YtoffhlbdfhhhjaaDoor.Fr
open Go Go.RowKit Go.Proofs.YtoffhlbdfhhhjaaDoorW.PrintWords Go.Proofs.YtoffhlbdfhhhjaaDoorW.PrintLast Go.Proofs.YtoffhlbdfhhhjaaDoorW.PrintMore Go.Proofs.YtoffhlbdfhhhjaaDoor.QL
set_option linter.unusedSimpArgs false
set_option linter.unusedVariables false
theorem andNot_and (x k : Int) : Go.bits .andNot .i64 (Go.bits .and .i64 x k) k = 0 := by
  have e2 : Go.bits .and .i64 x k = IntKind.i64.wrap ((BitVec.ofInt 64 x &&& BitVec.ofInt 64 k).toNat : Int) := rfl
  have e3 : BitVec.ofInt 64 (Go.bits .and .i64 x k) = BitVec.ofInt 64 x &&& BitVec.ofInt 64 k := by
    rw [e2]
    refine BitVec.eq_of_toNat_eq ?_
    have hlt := (BitVec.ofInt 64 x &&& BitVec.ofInt 64 k).isLt
    rw [BitVec.toNat_ofInt, IntKind.wrap_i64]
    omega
  have e1 : Go.bits .andNot .i64 (Go.bits .and .i64 x k) k = IntKind.i64.wrap ((BitVec.ofInt 64 (Go.bits .and .i64 x k) &&& ~~~ BitVec.ofInt 64 k).toNat : Int) := rfl
  have hz : BitVec.ofInt 64 x &&& BitVec.ofInt 64 k &&& ~~~ BitVec.ofInt 64 k = 0 := by
    ext i hi
    simp only [← BitVec.getLsbD_eq_getElem, BitVec.getLsbD_and, BitVec.getLsbD_not]
    cases (BitVec.ofInt 64 x).getLsbD i <;> cases (BitVec.ofInt 64 k).getLsbD i <;> simp [hi]
  rw [e1, e3, hz]
  rfl
theorem inR_of {n a b : Int} (h0 : a ≤ n) (h1 : n ≤ b) : inR n a b = true := by unfold inR; simp [h0, h1]
end Go.Proofs.YtoffhlbdfhhhjaaDoor.Fr
