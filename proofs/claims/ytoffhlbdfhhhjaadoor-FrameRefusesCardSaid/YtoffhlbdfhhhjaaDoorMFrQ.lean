/- Frames out of bytes: FrameRefuses: a frame that is right but for one thing is refused. The frame lies in a block of the call's own. -/
import Derived.Test.YtoffhlbdfhhhjaaDoorMFrMd
namespace Go.Proofs.YtoffhlbdfhhhjaaDoor.Fr
open Go Go.RowKit Go.Proofs.YtoffhlbdfhhhjaaDoorW.PrintWords Go.Proofs.YtoffhlbdfhhhjaaDoorW.PrintLast Go.Proofs.YtoffhlbdfhhhjaaDoorW.PrintMore Go.Proofs.YtoffhlbdfhhhjaaDoor.QL
set_option linter.unusedSimpArgs false
set_option linter.unusedVariables false
set_option maxHeartbeats 40000000
set_option maxRecDepth 100000
structure Right (f : Fr) : Prop where
  ty : 0 ≤ f.ty ∧ f.ty ≤ 255
  fl : Go.bits .andNot .i64 f.fl (kFl f.ty) = 0
  st : 0 ≤ f.st ∧ f.st ≤ 2147483647
  pad : 0 ≤ f.pad ∧ f.pad ≤ 255
  wt : 0 ≤ f.wt ∧ f.wt ≤ 256
  co : 0 ≤ f.co ∧ f.co ≤ 4294967295
  la : 0 ≤ f.la ∧ f.la ≤ 2147483647
theorem right_all {f : Fr} (h : rightB f = true) : Right f := by
  unfold rightB headB numB sameB at h
  simp only [Bool.and_eq_true] at h
  obtain ⟨⟨⟨⟨⟨⟨⟨⟨h1, h2⟩, h3⟩, h4⟩, h5⟩, h6⟩, h7⟩, ⟨⟨h8, h9⟩, h10⟩, h11⟩, ⟨⟨⟨⟨⟨s1, s2⟩, s3⟩, s4⟩, s5⟩, s6⟩, s7⟩ := h
  refine ⟨inR_iff h1, by simpa using h2, inR_iff h3, inR_iff h8, ?_, inR_iff h10, inR_iff h11⟩
  cases hp : prioB f
  · have e : f.wt = 0 := by
      have := (beq_iff_eq.mp s4)
      unfold ownWt at this
      rw [hp] at this
      exact this.symm
    omega
  · rw [hp] at h5
    have := inR_iff (n := f.wt) (a := 1) (b := 256) (by simpa using h5)
    omega
theorem kFl_range (t : Int) : 0 ≤ kFl t ∧ kFl t ≤ 255 := by
  unfold kFl
  repeat' split
  all_goals omega
/-- A flag above the eight bits stays. -/
theorem andNot_big (x k : Int) (h0 : 255 < x) (h1 : x < 9223372036854775808) (hk : 0 ≤ k ∧ k ≤ 255) : Go.bits .andNot .i64 x k ≠ 0 := by
  obtain ⟨a, rfl⟩ := Int.eq_ofNat_of_zero_le (show 0 ≤ x by omega)
  obtain ⟨b, rfl⟩ := Int.eq_ofNat_of_zero_le hk.1
  have e : Go.bits .andNot .i64 (a : Int) (b : Int) = IntKind.i64.wrap ((BitVec.ofNat 64 a &&& ~~~ BitVec.ofNat 64 b).toNat : Int) := by
    show IntKind.i64.wrap _ = _
    simp only [BitVec.ofInt_natCast]
    rfl
  have hlt : (BitVec.ofNat 64 a &&& ~~~ BitVec.ofNat 64 b).toNat ≤ a := by
    rw [BitVec.toNat_and, BitVec.toNat_ofNat, Nat.mod_eq_of_lt (by omega)]
    exact Nat.and_le_left
  rw [e, IntWalk.i64_in _ (by omega)]
  intro h
  have hz : BitVec.ofNat 64 a &&& ~~~ BitVec.ofNat 64 b = 0 := BitVec.eq_of_toNat_eq (by simpa using h)
  have hb : (BitVec.ofNat 64 a).toNat &&& (BitVec.ofNat 64 b).toNat = (BitVec.ofNat 64 a).toNat := by
    have h2 : BitVec.ofNat 64 a &&& BitVec.ofNat 64 b = BitVec.ofNat 64 a := by
      ext i hi
      have := congrArg (fun v => v.getLsbD i) hz
      simp only [BitVec.getLsbD_and, BitVec.getLsbD_not] at this
      simp only [← BitVec.getLsbD_eq_getElem, BitVec.getLsbD_and]
      revert this
      cases (BitVec.ofNat 64 a).getLsbD i <;> cases (BitVec.ofNat 64 b).getLsbD i <;> simp [hi]
    have := congrArg BitVec.toNat h2
    rwa [BitVec.toNat_and] at this
  rw [BitVec.toNat_ofNat, BitVec.toNat_ofNat, Nat.mod_eq_of_lt (by omega), Nat.mod_eq_of_lt (by omega)] at hb
  have := Nat.and_le_right (n := a) (m := b)
  omega
theorem refuse0 (m : Fr) (y : Int) (h0 : 0 ≤ y) (h1 : y ≤ 1099511627775) : rightB { m with ty := 256 + y } = false := by
  cases h : rightB { m with ty := 256 + y }
  · rfl
  · exfalso
    have h1 := (right_all h).ty
    simp only at h1
    omega
theorem refuse1 (m : Fr) (y : Int) (h0 : 0 ≤ y) (h1 : y ≤ 1099511627775) : rightB { m with st := 2147483648 + y } = false := by
  cases h : rightB { m with st := 2147483648 + y }
  · rfl
  · exfalso
    have h1 := (right_all h).st
    simp only at h1
    omega
theorem refuse2 (m : Fr) (y : Int) (h0 : 0 ≤ y) (h1 : y ≤ 1099511627775) : rightB { m with st := -1 - y } = false := by
  cases h : rightB { m with st := -1 - y }
  · rfl
  · exfalso
    have h1 := (right_all h).st
    simp only at h1
    omega
theorem refuse3 (m : Fr) (y : Int) (h0 : 0 ≤ y) (h1 : y ≤ 1099511627775) : rightB { m with pad := 256 + y } = false := by
  cases h : rightB { m with pad := 256 + y }
  · rfl
  · exfalso
    have h1 := (right_all h).pad
    simp only at h1
    omega
theorem refuse4 (m : Fr) (y : Int) (h0 : 0 ≤ y) (h1 : y ≤ 1099511627775) : rightB { m with wt := 257 + y } = false := by
  cases h : rightB { m with wt := 257 + y }
  · rfl
  · exfalso
    have h1 := (right_all h).wt
    simp only at h1
    omega
theorem refuse5 (m : Fr) (y : Int) (h0 : 0 ≤ y) (h1 : y ≤ 1099511627775) : rightB { m with co := 4294967296 + y } = false := by
  cases h : rightB { m with co := 4294967296 + y }
  · rfl
  · exfalso
    have h1 := (right_all h).co
    simp only at h1
    omega
theorem refuse6 (m : Fr) (y : Int) (h0 : 0 ≤ y) (h1 : y ≤ 1099511627775) : rightB { m with la := 2147483648 + y } = false := by
  cases h : rightB { m with la := 2147483648 + y }
  · rfl
  · exfalso
    have h1 := (right_all h).la
    simp only at h1
    omega
theorem refuse7 (m : Fr) (y : Int) (h0 : 0 ≤ y) (h1 : y ≤ 1099511627775) : rightB { m with fl := 256 + y } = false := by
  cases h : rightB { m with fl := 256 + y }
  · rfl
  · exfalso
    have h1 := (right_all h).fl
    exact absurd h1 (andNot_big _ _ (by show 255 < 256 + y; omega) (by show 256 + y < 9223372036854775808; omega) (kFl_range _))
theorem made_sizes (f : Fr) : (madeF f).da.size ≤ 60000 ∧ (madeF f).ps.length ≤ 2730 := by
  constructor
  · show (mDa _ f.da).size ≤ 60000
    unfold mDa
    split
    · simp only [ByteArray.size_extract]
      omega
    · omega
  · show (if _ then fewL f.ps else []).length ≤ 2730
    split
    · unfold fewL
      simp only [List.length_map, List.length_take]
      omega
    · simp
theorem refuses_calls (f : Fr) (A : Option Addr) (c : Nat) (turn by_ : Int) (w : World) (hG : GL w) (hps : Kd.C k32 w A f.ps.length f.ps) (hc : f.ps.length ≤ c) (hl : f.ps.length ≤ 8796093022208) (hda : f.da.size ≤ 9223372036854775799) :
    Calls Tryd.prog 8 #[.agg #[.int .i64 f.ty, .int .i64 f.fl, .int .i64 f.st, .string f.da, .int .i64 f.pad, .int .i64 f.dep, .bool f.ex, .int .i64 f.wt, .int .i64 f.co, .int .i64 f.la, .slice A f.ps.length c], .int .i64 turn, .int .i64 by_] w fun e w' => e = .returned (.bool true) ∧ Below w.heap.size w w' := by
  have HG := Aside0.mk hG
  have HPS := Aside0.mk hps
  have HC := Aside0.mk hc
  have HL := Aside0.mk hl
  have HDA := Aside0.mk hda
  have HB := Aside0.mk (Below.refl w.heap.size w)
  clear hG hps hc hl hda
  obtain ⟨m, hm⟩ : ∃ m, madeF f = m := ⟨_, rfl⟩
  have HM := Aside0.mk hm
  have HMS : Aside0 (m.da.size ≤ 60000 ∧ m.ps.length ≤ 2730) := ⟨by rw [← hm]; exact made_sizes f⟩
  clear hm
  go_enter Tryd.func8, Tryd.ntmps8
  go_upto_if 11 with (go_at_call 19; refine (first_calls _ (HG.out.below (below_alloc HB.out _))).mono ?_; rintro e w1 ⟨rfl, hb⟩; have L1 := Aside0.mk (below_then (below_alloc HB.out (.cells #[.int .i64 f.ty, .int .i64 f.fl, .int .i64 f.st, .string f.da, .int .i64 f.pad, .int .i64 f.dep, .bool f.ex, .int .i64 f.wt, .int .i64 f.co, .int .i64 f.la, .slice A f.ps.length c] 24)) (below_alloc HB.out (.cells #[.int .i64 f.ty, .int .i64 f.fl, .int .i64 f.st, .string f.da, .int .i64 f.pad, .int .i64 f.dep, .bool f.ex, .int .i64 f.wt, .int .i64 f.co, .int .i64 f.la, .slice A f.ps.length c] 24)).size hb); have X1 := Aside0.mk (blk_below (blk_new w (.cells #[.int .i64 f.ty, .int .i64 f.fl, .int .i64 f.st, .string f.da, .int .i64 f.pad, .int .i64 f.dep, .bool f.ex, .int .i64 f.wt, .int .i64 f.co, .int .i64 f.la, .slice A f.ps.length c] 24)) hb); clear hb)
  go_upto_region 3 with fail
  have X0 : Aside0 (At w1 w.heap.size f A c) := ⟨X1.out⟩
  obtain ⟨g0, hg0⟩ : ∃ g, w.heap.size = g := ⟨_, rfl⟩
  rw [hg0]
  rw [hg0] at X0
  clear hg0 X1
  go_upto_region 4 with (first
    | (refine wpList_load_row rfl 24 _ rfl g0 rfl 24 (f.cells A c) (0, 0) _ X0.out Tryd.underlying24 (by rfl) (by kernel_rfl) ?_)
    | (go_at_call 25; refine (made_calls f A c _ (Kd.C_below HPS.out L1.out) HC.out HL.out HDA.out).mono ?_; rintro e w5 ⟨A5, c5, rfl, hr, hb⟩; rw [HM.out] at hr ⊢; have R5 := Aside0.mk hr; have L5 := Aside0.mk (below_then L1.out L1.out.size hb); clear hr hb; unfold Fr.cells))
  obtain ⟨W6, hW6⟩ : ∃ W, w5.alloc (.cells #[.int .i64 m.ty, .int .i64 m.fl, .int .i64 m.st, .string m.da, .int .i64 m.pad, .int .i64 m.dep, .bool m.ex, .int .i64 m.wt, .int .i64 m.co, .int .i64 m.la, .slice A5 m.ps.length c5] 24) = W := ⟨_, rfl⟩
  obtain ⟨g7, hg7⟩ : ∃ g, w5.heap.size = g := ⟨_, rfl⟩
  have T : Aside0 (TInv w5 W6 g7 m A5 c5) := ⟨by rw [← hW6, ← hg7]; exact ⟨blk_new w5 _, below_alloc (Below.refl _ _) _, Nat.le_refl _⟩⟩
  rw [hW6, hg7]
  obtain ⟨y, hy⟩ : ∃ y, Go.bits .and .i64 by_ 1099511627775 = y := ⟨_, rfl⟩
  obtain ⟨x, hx⟩ : ∃ x, Go.bits .and .i64 turn 7 = x := ⟨_, rfl⟩
  have HY : Aside0 (0 ≤ y ∧ y ≤ 1099511627775) := ⟨by rw [← hy]; exact and_le by_ 1099511627775 (by decide)⟩
  have HXR : Aside0 (0 ≤ x ∧ x ≤ 7) := ⟨by rw [← hx]; exact and_le turn 7 (by decide)⟩
  clear hW6 hg7
  go_upto_block 0 with fail
  clear hx hy
  go_cut [6] from 18 to 55 (fun v wc => v = .bool false ∧ ∃ m', Aside0 (TInv w5 wc g7 m' A5 c5) ∧ Aside0 (rightB m' = false ∧ m'.da = m.da ∧ m'.ps = m.ps))
  case first =>
    as_aux_lemma =>
    have hxr := HXR.out
    have hyr := HY.out
    have e0 : wrap64 (256 + y) = 256 + y := by unfold wrap64; omega
    have e1 : wrap64 (2147483648 + y) = 2147483648 + y := by unfold wrap64; omega
    have e2 : wrap64 (-1 - y) = -1 - y := by unfold wrap64; omega
    have e4 : wrap64 (257 + y) = 257 + y := by unfold wrap64; omega
    have e5 : wrap64 (4294967296 + y) = 4294967296 + y := by unfold wrap64; omega
    have hx8 : x = 0 ∨ x = 1 ∨ x = 2 ∨ x = 3 ∨ x = 4 ∨ x = 5 ∨ x = 6 ∨ x = 7 := by omega
    clear hxr hyr
    rcases hx8 with rfl | rfl | rfl | rfl | rfl | rfl | rfl | rfl
    · have y0 := T.out.own.c0
      have yf0 := blk_frozen T.out.own 0
      go_wp2_with fail
      go_meet
      case rel => exact ⟨rfl, _, ⟨T.out.put0 _⟩, ⟨refuse0 m y HY.out.1 HY.out.2, rfl, rfl⟩⟩
    · have y2 := T.out.own.c2
      have yf2 := blk_frozen T.out.own 2
      go_wp2_with fail
      go_meet
      case rel => exact ⟨rfl, _, ⟨T.out.put2 _⟩, ⟨refuse1 m y HY.out.1 HY.out.2, rfl, rfl⟩⟩
    · have y2 := T.out.own.c2
      have yf2 := blk_frozen T.out.own 2
      go_wp2_with fail
      go_meet
      case rel => exact ⟨rfl, _, ⟨T.out.put2 _⟩, ⟨refuse2 m y HY.out.1 HY.out.2, rfl, rfl⟩⟩
    · have y4 := T.out.own.c4
      have yf4 := blk_frozen T.out.own 4
      go_wp2_with fail
      go_meet
      case rel => exact ⟨rfl, _, ⟨T.out.put4 _⟩, ⟨refuse3 m y HY.out.1 HY.out.2, rfl, rfl⟩⟩
    · have y7 := T.out.own.c7
      have yf7 := blk_frozen T.out.own 7
      go_wp2_with fail
      go_meet
      case rel => exact ⟨rfl, _, ⟨T.out.put7 _⟩, ⟨refuse4 m y HY.out.1 HY.out.2, rfl, rfl⟩⟩
    · have y8 := T.out.own.c8
      have yf8 := blk_frozen T.out.own 8
      go_wp2_with fail
      go_meet
      case rel => exact ⟨rfl, _, ⟨T.out.put8 _⟩, ⟨refuse5 m y HY.out.1 HY.out.2, rfl, rfl⟩⟩
    · have y9 := T.out.own.c9
      have yf9 := blk_frozen T.out.own 9
      go_wp2_with fail
      go_meet
      case rel => exact ⟨rfl, _, ⟨T.out.put9 _⟩, ⟨refuse6 m y HY.out.1 HY.out.2, rfl, rfl⟩⟩
    · have y1 := T.out.own.c1
      have yf1 := blk_frozen T.out.own 1
      go_wp2_with fail
      go_meet
      case rel => exact ⟨rfl, _, ⟨T.out.put1 _⟩, ⟨refuse7 m y HY.out.1 HY.out.2, rfl, rfl⟩⟩
  case rest =>
    clear T
    obtain ⟨rfl, m', T, HR⟩ := hcut
    have HV : Aside0 (wr m' = (60, [])) := ⟨by unfold wr; rw [if_neg (by rw [HR.out.1]; decide)]⟩
    go_wp2_with (first
      | (refine wpList_load_row rfl 24 _ rfl g7 rfl 24 (m'.cells A5 c5) (0, 0) _ T.out.own Tryd.underlying24 (by rfl) (by kernel_rfl) ?_)
      | (go_at_call 16; refine (write_calls m' A5 c5 _ (HG.out.below (below_then L5.out L5.out.size T.out.low)) (by rw [HR.out.2.2]; exact Kd.C_below (Kd.R_reads' R5.out).2.2 T.out.low) (by rw [HR.out.2.1]; have := HMS.out.1; omega) (by rw [HR.out.2.2]; have := HMS.out.2; omega)).mono ?_; rintro e w7 ⟨rfl, hb⟩; have L7 := Aside0.mk (below_then (below_then L5.out L5.out.size T.out.low) (below_then L5.out L5.out.size T.out.low).size hb); clear hb; rw [HV.out]))
    go_ret
    exact ⟨rfl, L7.out⟩
end Go.Proofs.YtoffhlbdfhhhjaaDoor.Fr
