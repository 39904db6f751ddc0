/- What is written is read back: plain facts. No condition. -/
import Derived.Test.YtoffhlbdfhhhjaaDoorMFp6
import Derived.Test.YtoffhlbdfhhhjaaDoorMFp5
namespace Go.Proofs.YtoffhlbdfhhhjaaDoor.Fr
open Go Go.RowKit Go.Proofs.YtoffhlbdfhhhjaaDoorW.PrintWords Go.Proofs.YtoffhlbdfhhhjaaDoorW.PrintLast Go.Proofs.YtoffhlbdfhhhjaaDoorW.PrintMore Go.Proofs.YtoffhlbdfhhhjaaDoor.QL
set_option linter.unusedSimpArgs false
set_option linter.unusedVariables false
set_option maxHeartbeats 40000000
set_option maxRecDepth 100000
structure Right (f : Fr) : Prop where
  ty : 0 ≤ f.ty ∧ f.ty ≤ 255
  fl : Go.bits .andNot .i64 f.fl (kFl f.ty) = 0
  st : 0 ≤ f.st ∧ f.st ≤ 2147483647
  pad : 0 ≤ f.pad ∧ f.pad ≤ 255
  wt : 0 ≤ f.wt ∧ f.wt ≤ 256
  co : 0 ≤ f.co ∧ f.co ≤ 4294967295
  la : 0 ≤ f.la ∧ f.la ≤ 2147483647
theorem right_all {f : Fr} (h : rightB f = true) : Right f := by
  unfold rightB headB numB sameB at h
  simp only [Bool.and_eq_true] at h
  obtain ⟨⟨⟨⟨⟨⟨⟨⟨h1, h2⟩, h3⟩, h4⟩, h5⟩, h6⟩, h7⟩, ⟨⟨h8, h9⟩, h10⟩, h11⟩, ⟨⟨⟨⟨⟨s1, s2⟩, s3⟩, s4⟩, s5⟩, s6⟩, s7⟩ := h
  refine ⟨inR_iff h1, by simpa using h2, inR_iff h3, inR_iff h8, ?_, inR_iff h10, inR_iff h11⟩
  cases hp : prioB f
  · have e : f.wt = 0 := by
      have := (beq_iff_eq.mp s4)
      unfold ownWt at this
      rw [hp] at this
      exact this.symm
    omega
  · rw [hp] at h5
    have := inR_iff (n := f.wt) (a := 1) (b := 256) (by simpa using h5)
    omega
theorem kFl_range (t : Int) : 0 ≤ kFl t ∧ kFl t ≤ 255 := by
  unfold kFl
  repeat' split
  all_goals omega
/-- A flag above the eight bits stays. -/
theorem andNot_big (x k : Int) (h0 : 255 < x) (h1 : x < 9223372036854775808) (hk : 0 ≤ k ∧ k ≤ 255) : Go.bits .andNot .i64 x k ≠ 0 := by
  obtain ⟨a, rfl⟩ := Int.eq_ofNat_of_zero_le (show 0 ≤ x by omega)
  obtain ⟨b, rfl⟩ := Int.eq_ofNat_of_zero_le hk.1
  have e : Go.bits .andNot .i64 (a : Int) (b : Int) = IntKind.i64.wrap ((BitVec.ofNat 64 a &&& ~~~ BitVec.ofNat 64 b).toNat : Int) := by
    show IntKind.i64.wrap _ = _
    simp only [BitVec.ofInt_natCast]
    rfl
  have hlt : (BitVec.ofNat 64 a &&& ~~~ BitVec.ofNat 64 b).toNat ≤ a := by
    rw [BitVec.toNat_and, BitVec.toNat_ofNat, Nat.mod_eq_of_lt (by omega)]
    exact Nat.and_le_left
  rw [e, IntWalk.i64_in _ (by omega)]
  intro h
  have hz : BitVec.ofNat 64 a &&& ~~~ BitVec.ofNat 64 b = 0 := BitVec.eq_of_toNat_eq (by simpa using h)
  have hb : (BitVec.ofNat 64 a).toNat &&& (BitVec.ofNat 64 b).toNat = (BitVec.ofNat 64 a).toNat := by
    have h2 : BitVec.ofNat 64 a &&& BitVec.ofNat 64 b = BitVec.ofNat 64 a := by
      ext i hi
      have := congrArg (fun v => v.getLsbD i) hz
      simp only [BitVec.getLsbD_and, BitVec.getLsbD_not] at this
      simp only [← BitVec.getLsbD_eq_getElem, BitVec.getLsbD_and]
      revert this
      cases (BitVec.ofNat 64 a).getLsbD i <;> cases (BitVec.ofNat 64 b).getLsbD i <;> simp [hi]
    have := congrArg BitVec.toNat h2
    rwa [BitVec.toNat_and] at this
  rw [BitVec.toNat_ofNat, BitVec.toNat_ofNat, Nat.mod_eq_of_lt (by omega), Nat.mod_eq_of_lt (by omega)] at hb
  have := Nat.and_le_right (n := a) (m := b)
  omega
theorem refuse0 (m : Fr) (y : Int) (h0 : 0 ≤ y) (h1 : y ≤ 1099511627775) : rightB { m with ty := 256 + y } = false := by
  cases h : rightB { m with ty := 256 + y }
  · rfl
  · exfalso
    have h1 := (right_all h).ty
    simp only at h1
    omega
theorem refuse1 (m : Fr) (y : Int) (h0 : 0 ≤ y) (h1 : y ≤ 1099511627775) : rightB { m with st := 2147483648 + y } = false := by
  cases h : rightB { m with st := 2147483648 + y }
  · rfl
  · exfalso
    have h1 := (right_all h).st
    simp only at h1
    omega
theorem refuse2 (m : Fr) (y : Int) (h0 : 0 ≤ y) (h1 : y ≤ 1099511627775) : rightB { m with st := -1 - y } = false := by
  cases h : rightB { m with st := -1 - y }
  · rfl
  · exfalso
    have h1 := (right_all h).st
    simp only at h1
    omega
theorem refuse3 (m : Fr) (y : Int) (h0 : 0 ≤ y) (h1 : y ≤ 1099511627775) : rightB { m with pad := 256 + y } = false := by
  cases h : rightB { m with pad := 256 + y }
  · rfl
  · exfalso
    have h1 := (right_all h).pad
    simp only at h1
    omega
theorem refuse4 (m : Fr) (y : Int) (h0 : 0 ≤ y) (h1 : y ≤ 1099511627775) : rightB { m with wt := 257 + y } = false := by
  cases h : rightB { m with wt := 257 + y }
  · rfl
  · exfalso
    have h1 := (right_all h).wt
    simp only at h1
    omega
theorem refuse5 (m : Fr) (y : Int) (h0 : 0 ≤ y) (h1 : y ≤ 1099511627775) : rightB { m with co := 4294967296 + y } = false := by
  cases h : rightB { m with co := 4294967296 + y }
  · rfl
  · exfalso
    have h1 := (right_all h).co
    simp only at h1
    omega
theorem refuse6 (m : Fr) (y : Int) (h0 : 0 ≤ y) (h1 : y ≤ 1099511627775) : rightB { m with la := 2147483648 + y } = false := by
  cases h : rightB { m with la := 2147483648 + y }
  · rfl
  · exfalso
    have h1 := (right_all h).la
    simp only at h1
    omega
theorem refuse7 (m : Fr) (y : Int) (h0 : 0 ≤ y) (h1 : y ≤ 1099511627775) : rightB { m with fl := 256 + y } = false := by
  cases h : rightB { m with fl := 256 + y }
  · rfl
  · exfalso
    have h1 := (right_all h).fl
    exact absurd h1 (andNot_big _ _ (by show 255 < 256 + y; omega) (by show 256 + y < 9223372036854775808; omega) (kFl_range _))
theorem made_sizes (f : Fr) : (madeF f).da.size ≤ 60000 ∧ (madeF f).ps.length ≤ 2730 := by
  constructor
  · show (mDa _ f.da).size ≤ 60000
    unfold mDa
    split
    · simp only [ByteArray.size_extract]
      omega
    · omega
  · show (if _ then fewL f.ps else []).length ≤ 2730
    split
    · unfold fewL
      simp only [List.length_map, List.length_take]
      omega
    · simp
theorem refuses_calls (f : Fr) (A : Option Addr) (c : Nat) (turn by_ : Int) (w : World) (hG : GL w) (hps : Kd.C k32 w A f.ps.length f.ps) (hc : f.ps.length ≤ c) (hl : f.ps.length ≤ 8796093022208) (hda : f.da.size ≤ 9223372036854775799) :
    Calls Tryd.prog 8 #[.agg #[.int .i64 f.ty, .int .i64 f.fl, .int .i64 f.st, .string f.da, .int .i64 f.pad, .int .i64 f.dep, .bool f.ex, .int .i64 f.wt, .int .i64 f.co, .int .i64 f.la, .slice A f.ps.length c], .int .i64 turn, .int .i64 by_] w fun e w' => e = .returned (.bool true) ∧ Below w.heap.size w w' := by
  have HG := Aside0.mk hG
  have HPS := Aside0.mk hps
  have HC := Aside0.mk hc
  have HL := Aside0.mk hl
  have HDA := Aside0.mk hda
  have HB := Aside0.mk (Below.refl w.heap.size w)
  clear hG hps hc hl hda
  obtain ⟨m, hm⟩ : ∃ m, madeF f = m := ⟨_, rfl⟩
  have HM := Aside0.mk hm
  have HMS : Aside0 (m.da.size ≤ 60000 ∧ m.ps.length ≤ 2730) := ⟨by rw [← hm]; exact made_sizes f⟩
  clear hm
  go_enter Tryd.func8, Tryd.ntmps8
  go_upto_if 11 with (go_at_call 19; refine (first_calls _ (HG.out.below (below_alloc HB.out _))).mono ?_; rintro e w1 ⟨rfl, hb⟩; have L1 := Aside0.mk (below_then (below_alloc HB.out (.cells #[.int .i64 f.ty, .int .i64 f.fl, .int .i64 f.st, .string f.da, .int .i64 f.pad, .int .i64 f.dep, .bool f.ex, .int .i64 f.wt, .int .i64 f.co, .int .i64 f.la, .slice A f.ps.length c] 24)) (below_alloc HB.out (.cells #[.int .i64 f.ty, .int .i64 f.fl, .int .i64 f.st, .string f.da, .int .i64 f.pad, .int .i64 f.dep, .bool f.ex, .int .i64 f.wt, .int .i64 f.co, .int .i64 f.la, .slice A f.ps.length c] 24)).size hb); have X1 := Aside0.mk (blk_below (blk_new w (.cells #[.int .i64 f.ty, .int .i64 f.fl, .int .i64 f.st, .string f.da, .int .i64 f.pad, .int .i64 f.dep, .bool f.ex, .int .i64 f.wt, .int .i64 f.co, .int .i64 f.la, .slice A f.ps.length c] 24)) hb); clear hb)
  go_upto_region 3 with fail
  have X0 : Aside0 (At w1 w.heap.size f A c) := ⟨X1.out⟩
  obtain ⟨g0, hg0⟩ : ∃ g, w.heap.size = g := ⟨_, rfl⟩
  rw [hg0]
  rw [hg0] at X0
  clear hg0 X1
  go_upto_region 4 with (first
    | (refine wpList_load_row rfl 24 _ rfl g0 rfl 24 (f.cells A c) (0, 0) _ X0.out Tryd.underlying24 (by rfl) (by kernel_rfl) ?_)
    | (go_at_call 25; refine (made_calls f A c _ (Kd.C_below HPS.out L1.out) HC.out HL.out HDA.out).mono ?_; rintro e w5 ⟨A5, c5, rfl, hr, hb⟩; rw [HM.out] at hr ⊢; have R5 := Aside0.mk hr; have L5 := Aside0.mk (below_then L1.out L1.out.size hb); clear hr hb; unfold Fr.cells))
  obtain ⟨W6, hW6⟩ : ∃ W, w5.alloc (.cells #[.int .i64 m.ty, .int .i64 m.fl, .int .i64 m.st, .string m.da, .int .i64 m.pad, .int .i64 m.dep, .bool m.ex, .int .i64 m.wt, .int .i64 m.co, .int .i64 m.la, .slice A5 m.ps.length c5] 24) = W := ⟨_, rfl⟩
  obtain ⟨g7, hg7⟩ : ∃ g, w5.heap.size = g := ⟨_, rfl⟩
  have T : Aside0 (TInv w5 W6 g7 m A5 c5) := ⟨by rw [← hW6, ← hg7]; exact ⟨blk_new w5 _, below_alloc (Below.refl _ _) _, Nat.le_refl _⟩⟩
  rw [hW6, hg7]
  obtain ⟨y, hy⟩ : ∃ y, Go.bits .and .i64 by_ 1099511627775 = y := ⟨_, rfl⟩
  obtain ⟨x, hx⟩ : ∃ x, Go.bits .and .i64 turn 7 = x := ⟨_, rfl⟩
  have HY : Aside0 (0 ≤ y ∧ y ≤ 1099511627775) := ⟨by rw [← hy]; exact and_le by_ 1099511627775 (by decide)⟩
  have HXR : Aside0 (0 ≤ x ∧ x ≤ 7) := ⟨by rw [← hx]; exact and_le turn 7 (by decide)⟩
  clear hW6 hg7
  go_upto_block 0 with fail
  clear hx hy
  go_cut [6] from 18 to 55 (fun v wc => v = .bool false ∧ ∃ m', Aside0 (TInv w5 wc g7 m' A5 c5) ∧ Aside0 (rightB m' = false ∧ m'.da = m.da ∧ m'.ps = m.ps))
  case first =>
    as_aux_lemma =>
    have hxr := HXR.out
    have hyr := HY.out
    have e0 : wrap64 (256 + y) = 256 + y := by unfold wrap64; omega
    have e1 : wrap64 (2147483648 + y) = 2147483648 + y := by unfold wrap64; omega
    have e2 : wrap64 (-1 - y) = -1 - y := by unfold wrap64; omega
    have e4 : wrap64 (257 + y) = 257 + y := by unfold wrap64; omega
    have e5 : wrap64 (4294967296 + y) = 4294967296 + y := by unfold wrap64; omega
    have hx8 : x = 0 ∨ x = 1 ∨ x = 2 ∨ x = 3 ∨ x = 4 ∨ x = 5 ∨ x = 6 ∨ x = 7 := by omega
    clear hxr hyr
    rcases hx8 with rfl | rfl | rfl | rfl | rfl | rfl | rfl | rfl
    · have y0 := T.out.own.c0
      have yf0 := blk_frozen T.out.own 0
      go_wp2_with fail
      go_meet
      case rel => exact ⟨rfl, _, ⟨T.out.put0 _⟩, ⟨refuse0 m y HY.out.1 HY.out.2, rfl, rfl⟩⟩
    · have y2 := T.out.own.c2
      have yf2 := blk_frozen T.out.own 2
      go_wp2_with fail
      go_meet
      case rel => exact ⟨rfl, _, ⟨T.out.put2 _⟩, ⟨refuse1 m y HY.out.1 HY.out.2, rfl, rfl⟩⟩
    · have y2 := T.out.own.c2
      have yf2 := blk_frozen T.out.own 2
      go_wp2_with fail
      go_meet
      case rel => exact ⟨rfl, _, ⟨T.out.put2 _⟩, ⟨refuse2 m y HY.out.1 HY.out.2, rfl, rfl⟩⟩
    · have y4 := T.out.own.c4
      have yf4 := blk_frozen T.out.own 4
      go_wp2_with fail
      go_meet
      case rel => exact ⟨rfl, _, ⟨T.out.put4 _⟩, ⟨refuse3 m y HY.out.1 HY.out.2, rfl, rfl⟩⟩
    · have y7 := T.out.own.c7
      have yf7 := blk_frozen T.out.own 7
      go_wp2_with fail
      go_meet
      case rel => exact ⟨rfl, _, ⟨T.out.put7 _⟩, ⟨refuse4 m y HY.out.1 HY.out.2, rfl, rfl⟩⟩
    · have y8 := T.out.own.c8
      have yf8 := blk_frozen T.out.own 8
      go_wp2_with fail
      go_meet
      case rel => exact ⟨rfl, _, ⟨T.out.put8 _⟩, ⟨refuse5 m y HY.out.1 HY.out.2, rfl, rfl⟩⟩
    · have y9 := T.out.own.c9
      have yf9 := blk_frozen T.out.own 9
      go_wp2_with fail
      go_meet
      case rel => exact ⟨rfl, _, ⟨T.out.put9 _⟩, ⟨refuse6 m y HY.out.1 HY.out.2, rfl, rfl⟩⟩
    · have y1 := T.out.own.c1
      have yf1 := blk_frozen T.out.own 1
      go_wp2_with fail
      go_meet
      case rel => exact ⟨rfl, _, ⟨T.out.put1 _⟩, ⟨refuse7 m y HY.out.1 HY.out.2, rfl, rfl⟩⟩
  case rest =>
    clear T
    obtain ⟨rfl, m', T, HR⟩ := hcut
    have HV : Aside0 (wr m' = (60, [])) := ⟨by unfold wr; rw [if_neg (by rw [HR.out.1]; decide)]⟩
    go_wp2_with (first
      | (refine wpList_load_row rfl 24 _ rfl g7 rfl 24 (m'.cells A5 c5) (0, 0) _ T.out.own Tryd.underlying24 (by rfl) (by kernel_rfl) ?_)
      | (go_at_call 16; refine (write_calls m' A5 c5 _ (HG.out.below (below_then L5.out L5.out.size T.out.low)) (by rw [HR.out.2.2]; exact Kd.C_below (Kd.R_reads' R5.out).2.2 T.out.low) (by rw [HR.out.2.1]; have := HMS.out.1; omega) (by rw [HR.out.2.2]; have := HMS.out.2; omega)).mono ?_; rintro e w7 ⟨rfl, hb⟩; have L7 := Aside0.mk (below_then (below_then L5.out L5.out.size T.out.low) (below_then L5.out L5.out.size T.out.low).size hb); clear hb; rw [HV.out]))
    go_ret
    exact ⟨rfl, L7.out⟩
end Go.Proofs.YtoffhlbdfhhhjaaDoor.Fr
namespace Go.Proofs.YtoffhlbdfhhhjaaDoor.Fr
open Go Go.RowKit Go.Proofs.YtoffhlbdfhhhjaaDoorW.PrintWords Go.Proofs.YtoffhlbdfhhhjaaDoorW.PrintLast Go.Proofs.YtoffhlbdfhhhjaaDoorW.PrintMore Go.Proofs.YtoffhlbdfhhhjaaDoor.QL
set_option linter.unusedSimpArgs false
set_option linter.unusedVariables false
theorem byte_nat (v : Int) (h : 0 ≤ v) (h2 : v < 256) : ((UInt8.ofNat v.toNat).toNat : Int) = v := by
  rw [UInt8.toNat_ofNat']
  omega
theorem be_num (k : Nat) (v : Int) (hk : k ≤ 4) (h0 : 0 ≤ v) (h1 : v < 256 ^ k) : numFrom 0 (be k v) = v := by
  have b (x : Int) : ((UInt8.ofNat (x % 256).toNat).toNat : Int) = x % 256 := byte_nat _ (by omega) (by omega)
  obtain rfl | rfl | rfl | rfl | rfl : k = 0 ∨ k = 1 ∨ k = 2 ∨ k = 3 ∨ k = 4 := by omega
  all_goals
    simp only [be, numFrom, b]
    omega
/-- A ByteArray by its list. -/
theorem ba_ext {a b : ByteArray} (h : a.data.toList = b.data.toList) : a = b := by
  cases a; cases b
  simp only [ByteArray.mk.injEq]
  exact Array.toList_inj.1 h
theorem ba_size (a : ByteArray) : a.size = a.data.toList.length := rfl
theorem ex_list (p : ByteArray) (i j : Nat) : (p.extract i j).data.toList = (p.data.toList.drop i).take (j - i) := by
  rw [ByteArray.data_extract, Array.toList_extract, List.extract_eq_take_drop]
theorem bt_get (s : ByteArray) (i : Nat) (x : UInt8) (h : s.data.toList[i]? = some x) : bt s (i : Int) = (x.toNat : Int) := by
  obtain ⟨hi, hx⟩ := List.getElem?_eq_some_iff.1 h
  rw [bt_list s i (by rw [ba_size]; exact hi), hx]
theorem num_list (s : ByteArray) (l : List UInt8) (h : s.data.toList = l) : num s = numFrom 0 l := by
  unfold num
  rw [h]
/-- A flag set within a type's flags is its own part of them. -/
theorem and_of_andNot (x k : Int) (h0 : -9223372036854775808 ≤ x) (h1 : x ≤ 9223372036854775807) (h : Go.bits .andNot .i64 x k = 0) : Go.bits .and .i64 x k = x := by
  have e1 : Go.bits .andNot .i64 x k = IntKind.i64.wrap ((BitVec.ofInt 64 x &&& ~~~ BitVec.ofInt 64 k).toNat : Int) := rfl
  have e2 : Go.bits .and .i64 x k = IntKind.i64.wrap ((BitVec.ofInt 64 x &&& BitVec.ofInt 64 k).toNat : Int) := rfl
  have hlt := (BitVec.ofInt 64 x &&& ~~~ BitVec.ofInt 64 k).isLt
  have hz : BitVec.ofInt 64 x &&& ~~~ BitVec.ofInt 64 k = 0 := by
    refine BitVec.eq_of_toNat_eq ?_
    rw [e1, IntKind.wrap_i64] at h
    show (BitVec.ofInt 64 x &&& ~~~ BitVec.ofInt 64 k).toNat = 0
    omega
  have hb : BitVec.ofInt 64 x &&& BitVec.ofInt 64 k = BitVec.ofInt 64 x := by
    ext i hi
    have := congrArg (fun v => v.getLsbD i) hz
    simp only [BitVec.getLsbD_and, BitVec.getLsbD_not] at this
    simp only [← BitVec.getLsbD_eq_getElem, BitVec.getLsbD_and]
    revert this
    cases (BitVec.ofInt 64 x).getLsbD i <;> cases (BitVec.ofInt 64 k).getLsbD i <;> simp [hi]
  rw [e2, hb, IntKind.wrap_i64, BitVec.toNat_ofInt]
  omega
theorem right_fl {f : Fr} (h : rightB f = true) (h0 : -9223372036854775808 ≤ f.fl) (h1 : f.fl ≤ 9223372036854775807) : Go.bits .and .i64 f.fl (kFl f.ty) = f.fl ∧ 0 ≤ f.fl ∧ f.fl ≤ 255 := by
  have e := and_of_andNot f.fl (kFl f.ty) h0 h1 (right_all h).fl
  have hk := kFl_range f.ty
  obtain ⟨b, hb⟩ := Int.eq_ofNat_of_zero_le hk.1
  have hr := and_le f.fl b (by omega)
  rw [← hb, e] at hr
  exact ⟨e, hr.1, by omega⟩
end Go.Proofs.YtoffhlbdfhhhjaaDoor.Fr
namespace Go.Proofs.YtoffhlbdfhhhjaaDoor.Fr
open Go Go.RowKit Go.Proofs.YtoffhlbdfhhhjaaDoorW.PrintWords Go.Proofs.YtoffhlbdfhhhjaaDoorW.PrintLast Go.Proofs.YtoffhlbdfhhhjaaDoorW.PrintMore Go.Proofs.YtoffhlbdfhhhjaaDoor.QL
set_option linter.unusedSimpArgs false
set_option linter.unusedVariables false
structure Own (f : Fr) : Prop where
  pad : ownPad f = f.pad
  dep : ownDep f = f.dep
  ex : ownEx f = f.ex
  wt : ownWt f = f.wt
  co : ownCo f = f.co
  la : ownLa f = f.la
  da : ownDa f = f.da
  st : stB f.ty f.st = true
  pw : prioB f = true → 1 ≤ f.wt ∧ f.wt ≤ 256
  dr : 0 ≤ f.dep ∧ f.dep ≤ 2147483647
  par : f.ty = 4 → parB f = true
  ping : f.ty = 6 → f.da.size = 8
  none : f.ty ≠ 4 → f.ps = []
theorem right_own {f : Fr} (h : rightB f = true) : Own f := by
  unfold rightB headB lenB numB sameB at h
  simp only [Bool.and_eq_true] at h
  obtain ⟨⟨⟨⟨⟨⟨⟨⟨h1, h2⟩, h3⟩, h4⟩, h5⟩, h6⟩, h7⟩, ⟨⟨h8, h9⟩, h10⟩, h11⟩, ⟨⟨⟨⟨⟨s1, s2⟩, s3⟩, s4⟩, s5⟩, s6⟩, s7⟩ := h
  refine ⟨beq_iff_eq.mp s1, beq_iff_eq.mp s2, beq_iff_eq.mp s3, beq_iff_eq.mp s4, beq_iff_eq.mp s5, beq_iff_eq.mp s6, ?_, h4, fun hp => ?_, inR_iff h9, fun h => ?_, fun h => ?_, fun h => ?_⟩
  · have := beq_iff_eq.mp s7
    rw [ByteArray.toList_eq, ByteArray.toList_eq] at this
    exact ba_ext this
  · rw [hp] at h5
    exact inR_iff (n := f.wt) (a := 1) (b := 256) (by simpa using h5)
  · rw [h] at h6
    simpa using h6
  · rw [h] at h7
    have h7' : f.da.size = 8 ∧ f.ps = [] := by simpa using h7
    exact h7'.1
  · simp only [Bool.not_or, Bool.not_and, Bool.and_eq_true, Bool.or_eq_true, Bool.not_eq_true', decide_eq_false_iff_not] at h7
    rcases h7.2 with h' | h'
    · simp at h'
      exact absurd h' h
    · exact List.eq_nil_of_length_eq_zero (by omega)
/-- The frame that the head and the padding tell. -/
def base (f : Fr) : Fr := ⟨f.ty, f.fl, f.st, ByteArray.empty, f.pad, 0, false, 0, 0, 0, []⟩
theorem take_be (k : Nat) (v : Int) (r : List UInt8) : (be k v ++ r).take k = be k v := by
  have := be_length k v
  rw [List.take_append_of_le_length (by omega), List.take_of_length_le (by omega)]
theorem drop_be (k : Nat) (v : Int) (r : List UInt8) : (be k v ++ r).drop k = r := by
  have := be_length k v
  rw [List.drop_append_of_le_length (by omega), List.drop_of_length_le (by omega), List.nil_append]
theorem num_head (p : ByteArray) (k : Nat) (v : Int) (r : List UInt8) (hk : k ≤ 4) (h0 : 0 ≤ v) (h1 : v < 256 ^ k) (h : p.data.toList = be k v ++ r) : num (p.extract 0 k) = v := by
  rw [num_list _ (be k v) (by rw [ex_list, h, List.drop_zero, Nat.sub_zero, take_be])]
  exact be_num k v hk h0 h1
theorem tail_list (p : ByteArray) (k : Nat) (v : Int) (r : List UInt8) (h : p.data.toList = be k v ++ r) : (p.extract k p.size).data.toList = r := by
  rw [list_extract, h, drop_be]
theorem weight_back (f : Fr) (p : ByteArray) (r : List UInt8) (hw : 1 ≤ f.wt ∧ f.wt ≤ 256) (hd : 0 ≤ f.dep ∧ f.dep ≤ 2147483647) (h : p.data.toList = weight f ++ r) :
    num (p.extract 0 4) % 2147483648 = f.dep ∧ decide (128 ≤ bt p 0) = f.ex ∧ bt p 4 + 1 = f.wt ∧ (p.extract 5 p.size).data.toList = r := by
  obtain ⟨v, hv⟩ : ∃ v, (f.dep + if f.ex = true then 2147483648 else 0) = v := ⟨_, rfl⟩
  have hvr : 0 ≤ v ∧ v < 4294967296 := by
    rw [← hv]
    split <;> omega
  unfold weight at h
  rw [hv, List.append_assoc] at h
  have hn := num_head p 4 v _ (by decide) hvr.1 (by omega) h
  have b (x : Int) : ((UInt8.ofNat (x % 256).toNat).toNat : Int) = x % 256 := byte_nat _ (by omega) (by omega)
  have h0 : bt p 0 = v / 16777216 % 256 := by
    have := bt_get p 0 (UInt8.ofNat (v / 16777216 % 256).toNat) (by rw [h]; rfl)
    rw [b] at this
    exact this
  have h4 : bt p 4 = (f.wt - 1) / 1 % 256 := by
    have := bt_get p 4 (UInt8.ofNat ((f.wt - 1) / 1 % 256).toNat) (by rw [h]; rfl)
    rw [b] at this
    exact this
  refine ⟨?_, ?_, ?_, ?_⟩
  · rw [hn, ← hv]
    split <;> omega
  · rw [h0, ← hv]
    cases f.ex
    · simp
      omega
    · simp
      omega
  · rw [h4]
    omega
  · rw [list_extract, h]
    have e : be 4 v ++ (be 1 (f.wt - 1) ++ r) = (be 4 v ++ be 1 (f.wt - 1)) ++ r := by rw [List.append_assoc]
    rw [e, List.drop_append_of_le_length (by simp [be_length]), List.drop_of_length_le (by simp [be_length]), List.nil_append]
theorem pars_back (ps : List S32) (r : List UInt8) (h : (ps.all fun p => inR p.f0 0 65535 && inR p.f1 0 4294967295) = true) : pars ps.length (params ps ++ r) = ps := by
  induction ps with
  | nil => rfl
  | cons p t ih =>
    simp only [List.all_cons, Bool.and_eq_true] at h
    have h0 := inR_iff h.1.1
    have h1 := inR_iff h.1.2
    have e : params (p :: t) ++ r = be 2 p.f0 ++ (be 4 p.f1 ++ (params t ++ r)) := by
      show (be 2 p.f0 ++ be 4 p.f1 ++ params t) ++ r = _
      simp only [List.append_assoc]
    show pars (t.length + 1) _ = _
    rw [e]
    unfold pars
    rw [take_be, drop_be, take_be, be_num 2 p.f0 (by decide) h0.1 (by omega), be_num 4 p.f1 (by decide) h1.1 (by omega)]
    have e2 : (be 2 p.f0 ++ (be 4 p.f1 ++ (params t ++ r))).drop 6 = params t ++ r := by
      have e3 : be 2 p.f0 ++ (be 4 p.f1 ++ (params t ++ r)) = (be 2 p.f0 ++ be 4 p.f1) ++ (params t ++ r) := by simp only [List.append_assoc]
      rw [e3, List.drop_append_of_le_length (by simp [be_length]), List.drop_of_length_le (by simp [be_length]), List.nil_append]
    rw [e2, ih h.2]
theorem ownNone (f : Fr) (ho : Own f) : (f.ty ≠ 3 → f.ty ≠ 7 → f.co = 0) ∧ (f.ty ≠ 8 → f.ty ≠ 7 → f.ty ≠ 5 → f.la = 0) ∧ (prioB f = false → f.dep = 0 ∧ f.ex = false ∧ f.wt = 0) ∧ (f.ty = 3 ∨ f.ty = 4 ∨ f.ty = 2 ∨ f.ty = 8 → f.da = ByteArray.empty) := by
  refine ⟨fun h3 h7 => ?_, fun h8 h7 h5 => ?_, fun hp => ⟨?_, ?_, ?_⟩, fun h => ?_⟩
  · rw [← ho.co]
    exact if_neg (by omega)
  · rw [← ho.la]
    exact if_neg (by omega)
  · rw [← ho.dep]
    exact if_neg (by rw [hp]; decide)
  · rw [← ho.ex]
    exact if_neg (by rw [hp]; decide)
  · rw [← ho.wt]
    exact if_neg (by rw [hp]; decide)
  · rw [← ho.da]
    exact if_pos h
theorem fr_ext {a b : Fr} (h0 : a.ty = b.ty) (h1 : a.fl = b.fl) (h2 : a.st = b.st) (h3 : a.da = b.da) (h4 : a.pad = b.pad) (h5 : a.dep = b.dep) (h6 : a.ex = b.ex) (h7 : a.wt = b.wt) (h8 : a.co = b.co) (h9 : a.la = b.la) (h10 : a.ps = b.ps) : a = b := by
  cases a; cases b
  simp only at h0 h1 h2 h3 h4 h5 h6 h7 h8 h9 h10
  subst h0 h1 h2 h3 h4 h5 h6 h7 h8 h9 h10
  rfl
theorem takes_back (f : Fr) (h : rightB f = true) (p : ByteArray) (hp : p.data.toList = layB f) : takes (base f) p = some f := by
  have ho := right_own h
  have hra := right_all h
  obtain ⟨n1, n2, n3, n4⟩ := ownNone f ho
  unfold layB at hp
  by_cases t1 : f.ty = 1
  · rw [if_pos t1] at hp
    have hpr : prioB f = has f.fl 32 := by unfold prioB; rw [t1]; simp
    have e : takes (base f) p = some (headersF (base f) p) := if_pos t1
    rw [e]
    refine congrArg some ?_
    cases hh : has f.fl 32
    · rw [if_neg (by rw [hh]; decide), List.nil_append] at hp
      have e2 : headersF (base f) p = { base f with da := p } := if_neg (by show ¬ has f.fl 32 = true; rw [hh]; decide)
      obtain ⟨a1, a2, a3⟩ := n3 (hpr.trans hh)
      rw [e2]
      exact fr_ext rfl rfl rfl (ba_ext hp) rfl a1.symm a2.symm a3.symm (n1 (by omega) (by omega)).symm (n2 (by omega) (by omega) (by omega)).symm (ho.none (by omega)).symm
    · rw [if_pos hh] at hp
      have e2 : headersF (base f) p = { wtF (base f) p with da := p.extract 5 p.size } := if_pos hh
      obtain ⟨a1, a2, a3, a4⟩ := weight_back f p f.da.data.toList (ho.pw (hpr.trans hh)) ho.dr hp
      rw [e2]
      exact fr_ext rfl rfl rfl (ba_ext a4) rfl a1 a2 a3 (n1 (by omega) (by omega)).symm (n2 (by omega) (by omega) (by omega)).symm (ho.none (by omega)).symm
  rw [if_neg t1] at hp
  by_cases t2 : f.ty = 2
  · rw [if_pos t2] at hp
    have hpr : prioB f = true := by unfold prioB; rw [t2]; rfl
    have hs : p.size = 5 := by rw [ba_size, hp, weight_length]
    have e : takes (base f) p = some (wtF (base f) p) := by
      unfold takes
      rw [if_neg (by exact t1), if_pos (by exact t2), if_pos hs]
    rw [e]
    refine congrArg some ?_
    obtain ⟨a1, a2, a3, a4⟩ := weight_back f p [] (ho.pw hpr) ho.dr (by rw [hp, List.append_nil])
    exact fr_ext rfl rfl rfl (n4 (by omega)).symm rfl a1 a2 a3 (n1 (by omega) (by omega)).symm (n2 (by omega) (by omega) (by omega)).symm (ho.none (by omega)).symm
  rw [if_neg t2] at hp
  have hpr : prioB f = false := by
    unfold prioB
    rw [beq_eq_false_iff_ne.mpr t1, beq_eq_false_iff_ne.mpr t2]
    rfl
  obtain ⟨a1, a2, a3⟩ := n3 hpr
  by_cases t3 : f.ty = 3
  · rw [if_pos t3] at hp
    have hs : p.size = 4 := by rw [ba_size, hp, be_length]
    have e : takes (base f) p = some { base f with co := num p } := by
      unfold takes
      rw [if_neg (by exact t1), if_neg (by exact t2), if_pos (by exact t3), if_pos hs]
    rw [e]
    refine congrArg some ?_
    have hn : num p = f.co := by rw [num_list p _ hp]; exact be_num 4 f.co (by decide) hra.co.1 (by have := hra.co.2; omega)
    exact fr_ext rfl rfl rfl (n4 (by omega)).symm rfl a1.symm a2.symm a3.symm hn (n2 (by omega) (by omega) (by omega)).symm (ho.none (by omega)).symm
  rw [if_neg t3] at hp
  by_cases t4 : f.ty = 4
  · rw [if_pos t4] at hp
    have hpar := ho.par t4
    unfold parB at hpar
    simp only [Bool.and_eq_true] at hpar
    have hs : p.size = 6 * f.ps.length := by rw [ba_size, hp, params_length]
    have hack : ¬ (has f.fl 1 = true ∧ 0 < p.size) := by
      rintro ⟨b1, b2⟩
      have hl := hpar.1
      rw [b1] at hl
      have h0 : f.ps = [] := by simpa using hl
      rw [h0] at hs
      have h1 : p.size = 0 := hs
      omega
    have e : takes (base f) p = some { base f with ps := pars (p.size / 6) p.data.toList } := by
      unfold takes
      rw [if_neg (by exact t1), if_neg (by exact t2), if_neg (by exact t3), if_pos (by exact t4), if_pos ⟨by omega, hack⟩]
    rw [e]
    refine congrArg some ?_
    have hn : pars (p.size / 6) p.data.toList = f.ps := by
      rw [hs, Nat.mul_div_cancel_left _ (by decide), hp]
      have := pars_back f.ps [] hpar.2
      rwa [List.append_nil] at this
    exact fr_ext rfl rfl rfl (n4 (by omega)).symm rfl a1.symm a2.symm a3.symm (n1 (by omega) (by omega)).symm (n2 (by omega) (by omega) (by omega)).symm hn
  rw [if_neg t4] at hp
  have hps := (ho.none t4).symm
  by_cases t5 : f.ty = 5
  · rw [if_pos t5] at hp
    have e : takes (base f) p = some (promiseF (base f) p) := by
      unfold takes
      rw [if_neg (by exact t1), if_neg (by exact t2), if_neg (by exact t3), if_neg (by exact t4), if_pos (by exact t5)]
    rw [e]
    refine congrArg some ?_
    have hn : num (p.extract 0 4) % 2147483648 = f.la := by rw [num_head p 4 f.la _ (by decide) hra.la.1 (by have := hra.la.2; omega) hp]; have := hra.la; omega
    exact fr_ext rfl rfl rfl (ba_ext (tail_list p 4 _ _ hp)) rfl a1.symm a2.symm a3.symm (n1 (by omega) (by omega)).symm hn hps
  rw [if_neg t5] at hp
  by_cases t7 : f.ty = 7
  · rw [if_pos t7, List.append_assoc] at hp
    have hs : 8 ≤ p.size := by rw [ba_size, hp]; simp [be_length]; omega
    have e : takes (base f) p = some (goAwayF (base f) p) := by
      unfold takes
      rw [if_neg (by exact t1), if_neg (by exact t2), if_neg (by exact t3), if_neg (by exact t4), if_neg (by exact t5), if_neg (by show ¬ f.ty = 6; omega), if_pos (by exact t7), if_pos hs]
    rw [e]
    refine congrArg some ?_
    have hn : num (p.extract 0 4) % 2147483648 = f.la := by rw [num_head p 4 f.la _ (by decide) hra.la.1 (by have := hra.la.2; omega) hp]; have := hra.la; omega
    have hc : num (p.extract 4 8) = f.co := by
      rw [num_list _ (be 4 f.co) (by rw [ex_list, hp, drop_be, take_be])]
      exact be_num 4 f.co (by decide) hra.co.1 (by have := hra.co.2; omega)
    have hd : (p.extract 8 p.size).data.toList = f.da.data.toList := by
      have e3 : be 4 f.la ++ (be 4 f.co ++ f.da.data.toList) = (be 4 f.la ++ be 4 f.co) ++ f.da.data.toList := by rw [List.append_assoc]
      rw [list_extract, hp, e3, List.drop_append_of_le_length (by simp [be_length]), List.drop_of_length_le (by simp [be_length]), List.nil_append]
    exact fr_ext rfl rfl rfl (ba_ext hd) rfl a1.symm a2.symm a3.symm hc hn hps
  rw [if_neg t7] at hp
  by_cases t8 : f.ty = 8
  · rw [if_pos t8] at hp
    have hs : p.size = 4 := by rw [ba_size, hp, be_length]
    have e : takes (base f) p = some { base f with la := num p % 2147483648 } := by
      unfold takes
      rw [if_neg (by exact t1), if_neg (by exact t2), if_neg (by exact t3), if_neg (by exact t4), if_neg (by exact t5), if_neg (by show ¬ f.ty = 6; omega), if_neg (by exact t7), if_pos (by exact t8), if_pos hs]
    rw [e]
    refine congrArg some ?_
    have hn : num p % 2147483648 = f.la := by rw [num_list p _ hp, be_num 4 f.la (by decide) hra.la.1 (by have := hra.la.2; omega)]; have := hra.la; omega
    exact fr_ext rfl rfl rfl (n4 (by omega)).symm rfl a1.symm a2.symm a3.symm (n1 (by omega) (by omega)).symm hn hps
  rw [if_neg t8] at hp
  have hda := ba_ext hp
  have e : takes (base f) p = some { base f with da := p } := by
    unfold takes
    rw [if_neg (by exact t1), if_neg (by exact t2), if_neg (by exact t3), if_neg (by exact t4), if_neg (by exact t5)]
    by_cases t6 : f.ty = 6
    · rw [if_pos (by exact t6), if_pos (by rw [hda]; exact ho.ping t6)]
    · rw [if_neg (by exact t6), if_neg (by exact t7), if_neg (by exact t8)]
  rw [e]
  exact congrArg some (fr_ext rfl rfl rfl hda rfl a1.symm a2.symm a3.symm (n1 (by omega) (by omega)).symm (n2 (by omega) (by omega) (by omega)).symm hps)
end Go.Proofs.YtoffhlbdfhhhjaaDoor.Fr
namespace Go.Proofs.YtoffhlbdfhhhjaaDoor.Fr
open Go Go.RowKit Go.Proofs.YtoffhlbdfhhhjaaDoorW.PrintWords Go.Proofs.YtoffhlbdfhhhjaaDoorW.PrintLast Go.Proofs.YtoffhlbdfhhhjaaDoorW.PrintMore Go.Proofs.YtoffhlbdfhhhjaaDoor.QL
set_option linter.unusedSimpArgs false
set_option linter.unusedVariables false
theorem aheadI_le (f : Fr) : aheadI f ≤ (if padB f = true then 1 else 0) + aheadR f := by
  show (if has f.fl 8 = true ∧ has (kFl f.ty) 8 = true ∧ f.ty < 10 then (1 : Int) else 0) + aheadR f ≤ _
  by_cases h : has f.fl 8 = true ∧ has (kFl f.ty) 8 = true ∧ f.ty < 10
  · have hp : padB f = true := by unfold padB; rw [decide_eq_true h.2.2, h.1]; rfl
    rw [if_pos h, if_pos hp]
    omega
  · rw [if_neg h]
    split <;> omega
theorem layB_ge (f : Fr) : aheadR f ≤ ((layB f).length : Int) := by
  unfold aheadR layB
  split
  · rename_i h
    rw [if_pos h.1, if_pos h.2, List.length_append, weight_length]
    omega
  · split
    · rename_i h1 h5
      have e : ∀ x : List UInt8, (4 : Int) ≤ ((be 4 f.la ++ x).length : Int) := fun x => by rw [List.length_append, be_length]; omega
      first
        | exact e _
        | (rw [if_neg (by omega), if_neg (by omega), if_neg (by omega), if_neg (by omega), if_pos h5]; exact e _)
        | (rw [if_neg (by omega)]; simp only [h5]; exact e _)
    · omega
/-- The head's bytes. -/
def headL (f : Fr) (n : Nat) : List UInt8 := be 3 (n : Int) ++ be 1 f.ty ++ be 1 f.fl ++ be 4 f.st
theorem headL_length (f : Fr) (n : Nat) : (headL f n).length = 9 := by simp [headL, be_length]
theorem head_back (f : Fr) (hf : rightB f = true) (hfl : Go.bits .and .i64 f.fl (kFl f.ty) = f.fl ∧ 0 ≤ f.fl ∧ f.fl ≤ 255) (n : Nat) (hn : n < 16777216) (b : ByteArray) (r : List UInt8) (hb : b.data.toList = headL f n ++ r) :
    rdN b = n ∧ rd0 b = ⟨f.ty, f.fl, f.st, ByteArray.empty, 0, 0, false, 0, 0, 0, []⟩ ∧ ∀ k, (b.extract 9 (9 + k)).data.toList = r.take k := by
  have hra := right_all hf
  have bb (x : Int) : ((UInt8.ofNat (x % 256).toNat).toNat : Int) = x % 256 := byte_nat _ (by omega) (by omega)
  have hb' : b.data.toList = be 3 (n : Int) ++ (be 1 f.ty ++ (be 1 f.fl ++ (be 4 f.st ++ r))) := by rw [hb]; unfold headL; simp only [List.append_assoc]
  have e3 : bt b 3 = f.ty := by
    have := bt_get b 3 (UInt8.ofNat (f.ty / 1 % 256).toNat) (by rw [hb']; rfl)
    rw [bb] at this
    have h1 := hra.ty
    rw [show ((3 : Nat) : Int) = 3 from rfl] at this
    omega
  have e4 : bt b 4 = f.fl := by
    have := bt_get b 4 (UInt8.ofNat (f.fl / 1 % 256).toNat) (by rw [hb']; rfl)
    rw [bb] at this
    rw [show ((4 : Nat) : Int) = 4 from rfl] at this
    omega
  have e5 : num (b.extract 5 9) = f.st := by
    rw [num_list _ (be 4 f.st) (by rw [ex_list, hb']; rfl)]
    exact be_num 4 f.st (by decide) hra.st.1 (by have := hra.st.2; omega)
  refine ⟨num_head b 3 (n : Int) _ (by decide) (by omega) (by omega) hb', ?_, fun k => ?_⟩
  · unfold rd0
    rw [e3, e4, e5, hfl.1]
    have h2 : f.st % 2147483648 = f.st := by have := hra.st; omega
    rw [h2]
    rfl
  · rw [ex_list, hb, List.drop_append_of_le_length (by rw [headL_length]; exact Nat.le_refl _), List.drop_of_length_le (by rw [headL_length]; exact Nat.le_refl _), List.nil_append]
    congr 1
    omega
theorem rest_back (f : Fr) (hf : rightB f = true) (n : Nat) (hn : (payB f).length = n) (p : ByteArray) (hp : p.data.toList = payB f) : rdRest ⟨f.ty, f.fl, f.st, ByteArray.empty, 0, 0, false, 0, 0, 0, []⟩ n p = ⟨f, 9 + n, 0, 0⟩ := by
  have ho := right_own hf
  have hra := right_all hf
  have hl := layB_ge f
  have ha := aheadI_le f
  obtain ⟨m, hm⟩ : ∃ m : Nat, f.pad = m := ⟨f.pad.toNat, by have := hra.pad; omega⟩
  have hm255 : m ≤ 255 := by have := hra.pad; omega
  have hpay : payB f = (if padB f = true then be 1 f.pad else []) ++ layB f ++ List.replicate m 0 := by unfold payB; rw [hm]; rfl
  rw [hpay] at hp hn
  cases hpb : padB f
  · have hz : f.pad = 0 := by rw [← ho.pad]; exact if_neg (by rw [hpb]; decide)
    have hm0 : m = 0 := by omega
    subst hm0
    rw [hpb] at hp hn ha
    simp only [Bool.false_eq_true, if_false, List.nil_append, List.replicate_zero, List.append_nil] at hp hn ha
    exact rdRest_some _ n p (base f) p f ho.st (by show ¬ (n : Int) < aheadI f; omega) (by rintro ⟨h, _⟩; exact absurd (show padB f = true from h) (by rw [hpb]; decide)) ((if_neg (by show ¬ padB f = true; rw [hpb]; decide)).trans (by unfold base; rw [hz])) (if_neg (by show ¬ padB f = true; rw [hpb]; decide)) (takes_back f hf p hp)
  · rw [hpb] at hp hn ha
    simp only [if_true, List.length_append, be_length, List.length_replicate] at hp hn ha
    have bb (x : Int) : ((UInt8.ofNat (x % 256).toNat).toNat : Int) = x % 256 := byte_nat _ (by omega) (by omega)
    have h0 : bt p 0 = f.pad := by
      have := bt_get p 0 (UInt8.ofNat (f.pad / 1 % 256).toNat) (by rw [hp]; rfl)
      rw [bb] at this
      rw [show ((0 : Nat) : Int) = 0 from rfl] at this
      omega
    have hr : ((n : Int) - bt p 0).toNat = n - m := by rw [h0, hm]; omega
    have hx : (p.extract 1 ((n : Int) - bt p 0).toNat).data.toList = layB f := by
      rw [hr, ex_list, hp]
      have e : (be 1 f.pad ++ layB f ++ List.replicate m 0).drop 1 = layB f ++ List.replicate m 0 := rfl
      rw [e, List.take_append_of_le_length (by omega), List.take_of_length_le (by omega)]
    exact rdRest_some _ n p (base f) (p.extract 1 ((n : Int) - bt p 0).toNat) f ho.st (by show ¬ (n : Int) < aheadI f; omega) (by rintro ⟨_, h⟩; have h : (n : Int) - aheadI f < bt p 0 := h; rw [h0] at h; omega) ((if_pos hpb).trans (by unfold base; rw [h0])) (if_pos hpb) (takes_back f hf _ hx)
/-- A right frame is read back, whatever stands behind it. -/
theorem read_back (f : Fr) (hf : rightB f = true) (hfl : Go.bits .and .i64 f.fl (kFl f.ty) = f.fl ∧ 0 ≤ f.fl ∧ f.fl ≤ 255) (n : Nat) (hn : (payB f).length = n) (most : Int) (hm : (n : Int) ≤ min (max most 16384) 65536) (b : ByteArray) (r : List UInt8) (hb : b.data.toList = headL f n ++ (payB f ++ r)) : rdF b most = ⟨f, 9 + n, 0, 0⟩ := by
  have hsz : b.size = 9 + (n + r.length) := by rw [ba_size, hb, List.length_append, headL_length, List.length_append, hn]
  obtain ⟨h1, h2, h3⟩ := head_back f hf hfl n (by omega) b _ hb
  unfold rdF
  rw [if_neg (by omega), h1, if_neg (by omega), if_neg (by omega), h2, Int.toNat_natCast]
  refine rest_back f hf n hn _ ?_
  rw [h3, List.take_append_of_le_length (by omega), List.take_of_length_le (by omega)]
/-- Cut short, more is wanted. -/
theorem read_cut (f : Fr) (hf : rightB f = true) (hfl : Go.bits .and .i64 f.fl (kFl f.ty) = f.fl ∧ 0 ≤ f.fl ∧ f.fl ≤ 255) (n : Nat) (hn : n < 16777216) (most : Int) (hm : (n : Int) ≤ min (max most 16384) 65536) (b : ByteArray) (r : List UInt8) (hr : r.length < n) (hb : b.data.toList = headL f n ++ r) : rdF b most = .bad 0 := by
  have hsz : b.size = 9 + r.length := by rw [ba_size, hb, List.length_append, headL_length]
  obtain ⟨h1, h2, h3⟩ := head_back f hf hfl n hn b _ hb
  unfold rdF
  rw [if_neg (by omega), h1, if_neg (by omega), if_pos (by omega)]
theorem read_head (b : ByteArray) (most : Int) (h : b.size < 9) : rdF b most = .bad 0 := if_pos h
/-- A payload above what may be is told from nine bytes on. -/
theorem read_above (f : Fr) (hf : rightB f = true) (hfl : Go.bits .and .i64 f.fl (kFl f.ty) = f.fl ∧ 0 ≤ f.fl ∧ f.fl ≤ 255) (n : Nat) (hn : n < 16777216) (most : Int) (hm : min (max most 16384) 65536 < (n : Int)) (b : ByteArray) (r : List UInt8) (hb : b.data.toList = headL f n ++ r) : rdF b most = .bad 6 := by
  have hsz : b.size = 9 + r.length := by rw [ba_size, hb, List.length_append, headL_length]
  obtain ⟨h1, h2, h3⟩ := head_back f hf hfl n hn b _ hb
  unfold rdF
  rw [if_neg (by omega), h1, if_pos hm]
theorem wr_bytes (f : Fr) (hf : rightB f = true) (n : Nat) (hn : (payB f).length = n) (h : n ≤ 65536) : wr f = (0, headL f n ++ payB f) := by
  unfold wr headL
  rw [if_pos hf, if_neg (by omega), hn]
end Go.Proofs.YtoffhlbdfhhhjaaDoor.Fr
namespace Go.Proofs.YtoffhlbdfhhhjaaDoor.Fr
open Go Go.RowKit Go.Proofs.YtoffhlbdfhhhjaaDoorW.PrintWords Go.Proofs.YtoffhlbdfhhhjaaDoorW.PrintLast Go.Proofs.YtoffhlbdfhhhjaaDoorW.PrintMore Go.Proofs.YtoffhlbdfhhhjaaDoor.QL
set_option linter.unusedSimpArgs false
set_option linter.unusedVariables false
theorem andNot_and (x k : Int) : Go.bits .andNot .i64 (Go.bits .and .i64 x k) k = 0 := by
  have e2 : Go.bits .and .i64 x k = IntKind.i64.wrap ((BitVec.ofInt 64 x &&& BitVec.ofInt 64 k).toNat : Int) := rfl
  have e3 : BitVec.ofInt 64 (Go.bits .and .i64 x k) = BitVec.ofInt 64 x &&& BitVec.ofInt 64 k := by
    rw [e2]
    refine BitVec.eq_of_toNat_eq ?_
    have hlt := (BitVec.ofInt 64 x &&& BitVec.ofInt 64 k).isLt
    rw [BitVec.toNat_ofInt, IntKind.wrap_i64]
    omega
  have e1 : Go.bits .andNot .i64 (Go.bits .and .i64 x k) k = IntKind.i64.wrap ((BitVec.ofInt 64 (Go.bits .and .i64 x k) &&& ~~~ BitVec.ofInt 64 k).toNat : Int) := rfl
  have hz : BitVec.ofInt 64 x &&& BitVec.ofInt 64 k &&& ~~~ BitVec.ofInt 64 k = 0 := by
    ext i hi
    simp only [← BitVec.getLsbD_eq_getElem, BitVec.getLsbD_and, BitVec.getLsbD_not]
    cases (BitVec.ofInt 64 x).getLsbD i <;> cases (BitVec.ofInt 64 k).getLsbD i <;> simp [hi]
  rw [e1, e3, hz]
  rfl
theorem inR_of {n a b : Int} (h0 : a ≤ n) (h1 : n ≤ b) : inR n a b = true := by unfold inR; simp [h0, h1]
theorem fewL_par (l : List S32) : (fewL l).all (fun p => inR p.f0 0 65535 && inR p.f1 0 4294967295) = true := by
  unfold fewL
  rw [List.all_eq_true]
  intro p hp
  obtain ⟨q, _, rfl⟩ := List.mem_map.1 hp
  have h0 : 0 ≤ Go.bits .and .i64 q.f0 65535 ∧ Go.bits .and .i64 q.f0 65535 ≤ 65535 := and_le q.f0 65535 (by decide)
  have h1 : 0 ≤ Go.bits .and .i64 q.f1 4294967295 ∧ Go.bits .and .i64 q.f1 4294967295 ≤ 4294967295 := and_le q.f1 4294967295 (by decide)
  show (inR (Go.bits .and .i64 q.f0 65535) 0 65535 && inR (Go.bits .and .i64 q.f1 4294967295) 0 4294967295) = true
  rw [inR_of h0.1 h0.2, inR_of h1.1 h1.2]
  rfl
theorem mDa_6 (d : ByteArray) : (mDa 6 d).size = 8 := by
  have e : mD1 6 d = (d ++ z8).extract 0 8 := rfl
  have hs : ((d ++ z8).extract 0 8).size = 8 := by
    rw [ByteArray.size_extract, ByteArray.size_append, show z8.size = 8 from rfl]
    omega
  unfold mDa
  rw [e, if_neg (by omega)]
  exact hs
theorem made_right (f : Fr) : rightB (madeF f) = true := by
  have ht := mTy_range f.ex f.ty
  unfold madeF
  obtain ⟨t, et⟩ : ∃ t, mTy f.ex f.ty = t := ⟨_, rfl⟩
  rw [et] at ht ⊢
  obtain ⟨k, ek⟩ : ∃ k, kFl t = k := ⟨_, rfl⟩
  have hfl := andNot_and f.fl k
  rw [ek]
  obtain ⟨fl, ef⟩ : ∃ y, Go.bits .and .i64 f.fl k = y := ⟨_, rfl⟩
  rw [ef] at hfl ⊢
  have m1 : 0 ≤ Go.bits .and .i64 f.st 2147483647 ∧ Go.bits .and .i64 f.st 2147483647 ≤ 2147483647 := and_le f.st 2147483647 (by decide)
  have m2 : 0 ≤ Go.bits .and .i64 f.dep 2147483647 ∧ Go.bits .and .i64 f.dep 2147483647 ≤ 2147483647 := and_le f.dep 2147483647 (by decide)
  have m3 : 0 ≤ Go.bits .and .i64 f.co 4294967295 ∧ Go.bits .and .i64 f.co 4294967295 ≤ 4294967295 := and_le f.co 4294967295 (by decide)
  have m4 : 0 ≤ Go.bits .and .i64 f.la 2147483647 ∧ Go.bits .and .i64 f.la 2147483647 ≤ 2147483647 := and_le f.la 2147483647 (by decide)
  have m5 := and_255 f.pad
  have m6 := and_255 f.wt
  have hp := fewL_par f.ps
  have h6 := mDa_6 f.da
  obtain ⟨g, eg⟩ : ∃ g, madeT f t fl = g := ⟨_, rfl⟩
  have g0 : g.ty = t := by rw [← eg]; rfl
  have g1 : g.fl = fl := by rw [← eg]; rfl
  have g2 : g.st = mSt t f.st := by rw [← eg]; rfl
  have g3 : g.da = mDa t f.da := by rw [← eg]; rfl
  have g4 : g.pad = if mP t fl = true then Go.bits .and .i64 f.pad 255 else 0 := by rw [← eg]; rfl
  have g5 : g.dep = if mW t fl = true then Go.bits .and .i64 f.dep 2147483647 else 0 := by rw [← eg]; rfl
  have g6 : g.ex = if mW t fl = true then (Go.bits .and .i64 f.wt 256 != 0) else false := by rw [← eg]; rfl
  have g7 : g.wt = if mW t fl = true then Go.bits .and .i64 f.wt 255 + 1 else 0 := by rw [← eg]; rfl
  have g8 : g.co = if mC t = true then Go.bits .and .i64 f.co 4294967295 else 0 := by rw [← eg]; rfl
  have g9 : g.la = if mL t = true then Go.bits .and .i64 f.la 2147483647 else 0 := by rw [← eg]; rfl
  have g10 : g.ps = if mQ t fl = true then fewL f.ps else [] := by rw [← eg]; rfl
  have hpr : prioB g = mW t fl := by unfold prioB has mW; rw [g0, g1]
  rw [eg]
  have c1 : inR g.ty 0 255 = true := inR_of (by omega) (by omega)
  have c2 : (Go.bits .andNot .i64 g.fl (kFl g.ty) == 0) = true := by rw [g0, g1, ek, hfl]; rfl
  have hs1 : 0 ≤ mSt1 t f.st ∧ mSt1 t f.st ≤ 2147483647 := by unfold mSt1; split <;> omega
  have c3 : inR g.st 0 2147483647 = true := by rw [g2]; refine inR_of ?_ ?_ <;> unfold mSt <;> split <;> omega
  have c4 : stB g.ty g.st = true := by
    rw [g0, g2]
    unfold stB
    by_cases q : t = 4 ∨ t = 6 ∨ t = 7
    · have a1 : kSt t = 1 := by rcases q with rfl | rfl | rfl <;> rfl
      have a2 : mSt t f.st = 0 := by rcases q with rfl | rfl | rfl <;> rfl
      rw [if_neg (by omega), if_pos a1, a2]
      rfl
    · by_cases q2 : kSt t = 0
      · have a2 : mSt t f.st ≠ 0 := by
          have hlt : (t < 4 ∨ t = 5 ∨ t = 9) := by
            unfold kSt at q2
            by_cases h10 : t < 10
            · rw [if_pos h10] at q2
              repeat' split at q2
              all_goals omega
            · rw [if_neg h10] at q2
              omega
          unfold mSt
          by_cases h0 : mSt1 t f.st = 0
          · have : mS2 t (mSt1 t f.st) = true := by
              unfold mS2
              rw [h0]
              rcases hlt with h | rfl | rfl
              · simp [h]
              · rfl
              · rfl
            rw [if_pos this]
            decide
          · split
            · decide
            · exact h0
        rw [if_pos q2]
        exact bne_iff_ne.mpr a2
      · have a1 : kSt t ≠ 1 := by
          unfold kSt
          repeat' split
          all_goals omega
        rw [if_neg q2, if_neg a1]
  have c5 : (!prioB g || inR g.wt 1 256) = true := by
    rw [hpr]
    cases hw : mW t fl
    · rfl
    · rw [g7, if_pos hw, inR_of (by omega) (by omega)]
      rfl
  have c6 : (g.ty != 4 || parB g) = true := by
    rw [g0]
    by_cases h4 : t = 4
    · subst h4
      unfold parB has
      rw [g1, g10]
      by_cases h0 : fl = 0
      · have e0 : (Go.bits .and .i64 0 1 != 0) = false := by decide
        rw [h0, if_pos (show mQ 4 0 = true from rfl), hp, e0]
        rfl
      · have : mQ 4 fl = false := by unfold mQ; simp [h0]
        rw [this]
        simp
    · simp [h4]
  have c7 : lenB g = true := by
    unfold lenB
    rw [g0, g3, g10]
    by_cases q6 : t = 6
    · subst q6
      rw [h6]
      rfl
    · by_cases q4 : t = 4
      · subst q4
        simp
      · have : mQ t fl = false := by unfold mQ; simp [q4]
        rw [this]
        simp [q6]
  have c8 : numB g = true := by
    unfold numB
    rw [g4, g5, g8, g9]
    rw [inR_of (n := if mP t fl = true then Go.bits .and .i64 f.pad 255 else 0) (by split <;> omega) (by split <;> omega), inR_of (n := if mW t fl = true then Go.bits .and .i64 f.dep 2147483647 else 0) (by split <;> omega) (by split <;> omega), inR_of (n := if mC t = true then Go.bits .and .i64 f.co 4294967295 else 0) (by split <;> omega) (by split <;> omega), inR_of (n := if mL t = true then Go.bits .and .i64 f.la 2147483647 else 0) (by split <;> omega) (by split <;> omega)]
    rfl
  have d1 : ownPad g = g.pad := by
    unfold ownPad
    cases hb : padB g
    · have : mP t fl = false := by
        cases hm : mP t fl
        · rfl
        · exfalso
          unfold mP at hm
          unfold padB has at hb
          rw [g0, g1] at hb
          simp only [Bool.and_eq_true, Bool.or_eq_true, beq_iff_eq] at hm
          have h10 : decide (t < 10) = true := decide_eq_true (by omega)
          rw [h10, hm.2] at hb
          cases hb
      rw [g4, this]
      rfl
    · rfl
  have d2 : ownDep g = g.dep := by unfold ownDep; rw [hpr, g5]; cases mW t fl <;> rfl
  have d3 : ownEx g = g.ex := by unfold ownEx; rw [hpr, g6]; cases mW t fl <;> rfl
  have d4 : ownWt g = g.wt := by unfold ownWt; rw [hpr, g7]; cases mW t fl <;> rfl
  have d5 : ownCo g = g.co := by
    unfold ownCo
    rw [g0]
    by_cases q : t = 3 ∨ t = 7
    · rw [if_pos q]
    · have : mC t = false := by unfold mC; simp; omega
      rw [if_neg q, g8, this]
      rfl
  have d6 : ownLa g = g.la := by
    unfold ownLa
    rw [g0]
    by_cases q : t = 8 ∨ t = 7 ∨ t = 5
    · rw [if_pos q]
    · have : mL t = false := by unfold mL; simp; omega
      rw [if_neg q, g9, this]
      rfl
  have d7 : ownDa g = g.da := by
    unfold ownDa
    rw [g0]
    by_cases q : t = 3 ∨ t = 4 ∨ t = 2 ∨ t = 8
    · rw [if_pos q, g3]
      rcases q with rfl | rfl | rfl | rfl <;> rfl
    · rw [if_neg q]
  unfold rightB headB sameB
  rw [c1, c2, c3, c4, c5, c6, c7, c8, d1, d2, d3, d4, d5, d6, d7]
  simp
end Go.Proofs.YtoffhlbdfhhhjaaDoor.Fr
namespace Go.Proofs.YtoffhlbdfhhhjaaDoor.Fr
open Go Go.RowKit Go.Proofs.YtoffhlbdfhhhjaaDoorW.PrintWords Go.Proofs.YtoffhlbdfhhhjaaDoorW.PrintLast Go.Proofs.YtoffhlbdfhhhjaaDoorW.PrintMore Go.Proofs.YtoffhlbdfhhhjaaDoor.QL
set_option linter.unusedSimpArgs false
set_option linter.unusedVariables false
theorem made_fl (f : Fr) : Go.bits .and .i64 (madeF f).fl (kFl (madeF f).ty) = (madeF f).fl ∧ 0 ≤ (madeF f).fl ∧ (madeF f).fl ≤ 255 := by
  have hk := kFl_range (mTy f.ex f.ty)
  obtain ⟨b, hb⟩ := Int.eq_ofNat_of_zero_le hk.1
  have hr := and_le f.fl b (by omega)
  have e : (madeF f).fl = Go.bits .and .i64 f.fl (b : Int) := by
    show Go.bits .and .i64 f.fl (kFl (mTy f.ex f.ty)) = _
    rw [hb]
  exact right_fl (made_right f) (by rw [e]; omega) (by rw [e]; omega)
theorem layB_le (f : Fr) (hd : f.da.size ≤ 60000) (hp : f.ps.length ≤ 2730) : (layB f).length ≤ 60008 := by
  have h1 : f.da.data.toList.length = f.da.size := rfl
  have h2 := params_length f.ps
  have h3 := weight_length f
  unfold layB
  repeat' split
  all_goals simp only [List.length_append, be_length, h1, h2, h3, List.length_nil]
  all_goals omega
theorem payB_le (f : Fr) (hf : rightB f = true) (hd : f.da.size ≤ 60000) (hp : f.ps.length ≤ 2730) : (payB f).length ≤ 60264 := by
  have h := layB_le f hd hp
  have hpad := (right_all hf).pad
  unfold payB
  rw [List.length_append, List.length_append, List.length_replicate]
  have : (if padB f = true then be 1 f.pad else []).length ≤ 1 := by split <;> simp [be_length]
  omega
/-- The frame made, its bytes and their number. -/
structure MadeW (m : Fr) (n : Nat) (s : ByteArray) : Prop where
  right : rightB m = true
  fl : Go.bits .and .i64 m.fl (kFl m.ty) = m.fl ∧ 0 ≤ m.fl ∧ m.fl ≤ 255
  len : (payB m).length = n
  le : n ≤ 60264
  da : m.da.size ≤ 60000
  ps : m.ps.length ≤ 2730
  wr : wr m = (0, s.data.toList)
  bytes : s.data.toList = headL m n ++ payB m
  size : s.size = 9 + n
theorem made_w (f : Fr) : ∃ n s, MadeW (madeF f) n s := by
  have hr := made_right f
  have hs := made_sizes f
  have hl := payB_le _ hr hs.1 hs.2
  refine ⟨(payB (madeF f)).length, ⟨(headL (madeF f) (payB (madeF f)).length ++ payB (madeF f)).toArray⟩, hr, made_fl f, rfl, hl, hs.1, hs.2, ?_, rfl, ?_⟩
  · exact wr_bytes _ hr _ rfl (by omega)
  · show (headL (madeF f) (payB (madeF f)).length ++ payB (madeF f)).toArray.size = _
    rw [List.size_toArray, List.length_append, headL_length]
/-- The first read: whatever stands behind. -/
theorem MadeW.read {m : Fr} {n : Nat} {s : ByteArray} (h : MadeW m n s) (r : ByteArray) : rdF (s ++ r) 65536 = ⟨m, s.size, 0, 0⟩ := by
  have e := read_back m h.right h.fl n h.len 65536 (by have := h.le; omega) (s ++ r) r.data.toList (by rw [ByteArray.data_append, Array.toList_append, h.bytes, List.append_assoc])
  rw [e, h.size]
  simp
/-- The second: cut short. -/
theorem MadeW.cut {m : Fr} {n : Nat} {s : ByteArray} (h : MadeW m n s) (k : Nat) (hk : k < s.size) : rdF (s.extract 0 k) 65536 = .bad 0 := by
  have hz := h.size
  by_cases h9 : k < 9
  · exact read_head _ _ (by rw [ByteArray.size_extract]; omega)
  · refine read_cut m h.right h.fl n (by have := h.le; omega) 65536 (by have := h.le; omega) _ ((payB m).take (k - 9)) (by rw [List.length_take]; omega) ?_
    rw [ex_list, h.bytes, List.drop_zero, Nat.sub_zero, List.take_append, headL_length, List.take_of_length_le (by rw [headL_length]; omega)]
/-- The third: the head alone, then others. -/
theorem MadeW.third {m : Fr} {n : Nat} {s : ByteArray} (h : MadeW m n s) (r : ByteArray) : (16384 < n → rdF (s.extract 0 9 ++ r) 16384 = .bad 6) ∧ (n ≤ 16384 → r.size < n → rdF (s.extract 0 9 ++ r) 16384 = .bad 0) := by
  have hb : (s.extract 0 9 ++ r).data.toList = headL m n ++ r.data.toList := by
    have e : (s.extract 0 9).data.toList = headL m n := by rw [ex_list, h.bytes, List.drop_zero, Nat.sub_zero, List.take_append_of_le_length (by rw [headL_length]; exact Nat.le_refl _), List.take_of_length_le (by rw [headL_length]; exact Nat.le_refl _)]
    rw [ByteArray.data_append, Array.toList_append, e]
  refine ⟨fun h1 => read_above m h.right h.fl n (by have := h.le; omega) 16384 (by omega) _ _ hb, fun h1 h2 => read_cut m h.right h.fl n (by omega) 16384 (by omega) _ _ h2 hb⟩
end Go.Proofs.YtoffhlbdfhhhjaaDoor.Fr
