/- FeedPreface: always true. The package's variable holds what the program lays. -/
import Derived.Test.YtoffhlbdfhhhjaaDoorMFdH
import Derived.Laws.IdiomStrings
namespace Go.Proofs.YtoffhlbdfhhhjaaDoor.Fr
open Go Go.RowKit Go.Proofs.YtoffhlbdfhhhjaaDoorW.PrintWords Go.Proofs.YtoffhlbdfhhhjaaDoorW.PrintLast Go.Proofs.YtoffhlbdfhhhjaaDoorW.PrintMore Go.Proofs.YtoffhlbdfhhhjaaDoor.QL
set_option linter.unusedSimpArgs false
set_option linter.unusedVariables false
set_option maxHeartbeats 40000000
set_option maxRecDepth 100000
/-- The feed that has waited for i bytes of the preface. -/
def fdP (i : Nat) : Fd := ⟨16384, prefaceB.extract 0 i, prefaceB, 0, 0⟩
theorem fdP_size (i : Nat) (h : i ≤ 24) : (fdP i).wt.size = i := by
  show (prefaceB.extract 0 i).size = i
  rw [ByteArray.size_extract, show prefaceB.size = 24 from rfl]
  omega
theorem fdP_pf (j : Nat) : (fdP j).pf.size ≤ 9223372036854775807 := by
  show prefaceB.size ≤ _
  rw [show prefaceB.size = 24 from rfl]
  omega
theorem preface_wait (j : Nat) (hj : j < 24) : nextF (fdP j) = (fdP j, ⟨Fr.zero, false, 0, 0⟩) := by
  have hz := fdP_size j (by omega)
  have hb : brB (fdP j) = false := rfl
  have he : (((fdP j).wt.extract 0 (min (fdP j).pf.size (fdP j).wt.size)).toList == ((fdP j).pf.extract 0 (min (fdP j).pf.size (fdP j).wt.size)).toList) = true := by
    apply beq_iff_eq.mpr
    rw [hz, show min (fdP j).pf.size j = j from Nat.min_eq_right (show j ≤ 24 by omega), ByteArray.toList_eq, ByteArray.toList_eq, ex_list, ex_list, List.drop_zero, List.drop_zero, Nat.sub_zero]
    show ((prefaceB.extract 0 j).data.toList).take j = prefaceB.data.toList.take j
    rw [ex_list, List.drop_zero, Nat.sub_zero, List.take_take, Nat.min_self]
  have hbeg : begunF (fdP j) = (false, fdP j) := by
    unfold begunF
    rw [if_neg (by rw [he]; decide), if_pos (by rw [hz]; exact hj)]
  unfold nextF
  rw [if_neg (by rw [hb]; decide), hbeg]
  rfl
theorem preface_in (i : Nat) (h : i < 23) : pushF (fdP i) (prefaceB.extract i (i + 1)) = fdP (i + 1) ∧ nextF (fdP (i + 1)) = (fdP (i + 1), ⟨Fr.zero, false, 0, 0⟩) := by
  refine ⟨?_, preface_wait (i + 1) (by omega)⟩
  have hb : brB (fdP i) = false := rfl
  unfold pushF
  rw [if_neg (by rw [hb]; decide)]
  have e : prefaceB.extract 0 i ++ prefaceB.extract i (i + 1) = prefaceB.extract 0 (i + 1) := by
    apply ba_ext
    rw [ByteArray.data_append, Array.toList_append, ex_list, ex_list, ex_list, List.drop_zero, Nat.sub_zero, Nat.sub_zero, show i + 1 - i = 1 by omega, List.take_add]
  unfold fdP
  rw [e]
/-- A wrong byte breaks the feed. -/
theorem preface_wrong (k : Nat) (hk : k < 24) (s : ByteArray) (c : UInt8) (hs : s.data.toList = [c]) (hc : prefaceB.data.toList[k]? ≠ some c) : nextF (pushF (fdP k) s) = (fdBroken 16384 prefaceB 1, ⟨Fr.zero, false, 1, 0⟩) := by
  have hb : brB (fdP k) = false := rfl
  have hp : pushF (fdP k) s = ⟨16384, prefaceB.extract 0 k ++ s, prefaceB, 0, 0⟩ := by
    unfold pushF
    rw [if_neg (by rw [hb]; decide)]
    rfl
  have hsz : (prefaceB.extract 0 k ++ s).size = k + 1 := by
    rw [ByteArray.size_append, ByteArray.size_extract, show prefaceB.size = 24 from rfl, show s.size = 1 from congrArg List.length hs]
    omega
  have hb2 : brB (⟨16384, prefaceB.extract 0 k ++ s, prefaceB, 0, 0⟩ : Fd) = false := rfl
  have hne : (((prefaceB.extract 0 k ++ s).extract 0 (min prefaceB.size (prefaceB.extract 0 k ++ s).size)).toList == (prefaceB.extract 0 (min prefaceB.size (prefaceB.extract 0 k ++ s).size)).toList) = false := by
    apply beq_eq_false_iff_ne.mpr
    intro h
    rw [hsz, show min prefaceB.size (k + 1) = k + 1 from Nat.min_eq_right (show k + 1 ≤ 24 by omega), ByteArray.toList_eq, ByteArray.toList_eq, ex_list, ex_list] at h
    have h2 := congrArg (fun l => l[k]?) h
    simp only [List.drop_zero, Nat.sub_zero, List.getElem?_take, if_pos (Nat.lt_succ_self k)] at h2
    rw [ByteArray.data_append, Array.toList_append, ex_list, hs, List.drop_zero, Nat.sub_zero, List.getElem?_append_right (by rw [List.length_take]; omega), List.length_take, show prefaceB.data.toList.length = 24 from rfl, show k - min k 24 = 0 by omega] at h2
    exact hc h2.symm
  rw [hp]
  unfold nextF
  rw [if_neg (by rw [hb2]; decide)]
  have hbeg : begunF (⟨16384, prefaceB.extract 0 k ++ s, prefaceB, 0, 0⟩ : Fd) = (false, ⟨16384, prefaceB.extract 0 k ++ s, prefaceB, 1, 0⟩) := if_pos hne
  rw [hbeg]
  rfl
theorem broken_push (s : ByteArray) : pushF (fdBroken 16384 prefaceB 1) s = fdBroken 16384 prefaceB 1 := rfl
theorem broken_next : nextF (fdBroken 16384 prefaceB 1) = (fdBroken 16384 prefaceB 1, ⟨Fr.zero, false, 1, 0⟩) := by kernel_rfl
theorem whole_next : nextF (pushF (newF true 16384) prefaceB) = (fdW ByteArray.empty, ⟨Fr.zero, false, 0, 0⟩) := by kernel_rfl
theorem ping_next : nextF (pushF (fdW ByteArray.empty) pingB) = (fdW ByteArray.empty, ⟨pingF, true, 0, 0⟩) := by kernel_rfl
theorem u8_wrap (n : Nat) (h : n < 256) : IntKind.u8.wrap (n : Int) = (n : Int) := by
  simp [IntKind.wrap, IntKind.bits, IntKind.signed]
  omega
theorem u8_xor (a z : Nat) (ha : a < 256) (hz : z < 256) : Go.bits .xor .u8 (a : Int) (z : Int) = ((a ^^^ z : Nat) : Int) := by
  have e : Go.bits .xor .u8 (a : Int) (z : Int) = IntKind.u8.wrap ((BitVec.ofNat 8 a ^^^ BitVec.ofNat 8 z).toNat : Int) := by
    show IntKind.u8.wrap _ = _
    simp only [BitVec.ofInt_natCast]
    rfl
  have hlt : a ^^^ z < 256 := Nat.xor_lt_two_pow (n := 8) ha hz
  rw [e, BitVec.toNat_xor, BitVec.toNat_ofNat, BitVec.toNat_ofNat, Nat.mod_eq_of_lt (by omega), Nat.mod_eq_of_lt (by omega), u8_wrap _ hlt]
theorem u8_or (a z : Nat) (ha : a < 256) (hz : z < 256) : Go.bits .or .u8 (a : Int) (z : Int) = ((a ||| z : Nat) : Int) := by
  have e : Go.bits .or .u8 (a : Int) (z : Int) = IntKind.u8.wrap ((BitVec.ofNat 8 a ||| BitVec.ofNat 8 z).toNat : Int) := by
    show IntKind.u8.wrap _ = _
    simp only [BitVec.ofInt_natCast]
    rfl
  have hlt : a ||| z < 256 := Nat.or_lt_two_pow (n := 8) ha hz
  rw [e, BitVec.toNat_or, BitVec.toNat_ofNat, BitVec.toNat_ofNat, Nat.mod_eq_of_lt (by omega), Nat.mod_eq_of_lt (by omega), u8_wrap _ hlt]
/-- A byte turned by an odd number is another one. -/
theorem odd_xor (a b : Int) (ha : 0 ≤ a ∧ a ≤ 255) (hb : 0 ≤ b ∧ b ≤ 255) : ∃ c : Nat, Go.bits .xor .u8 a (Go.bits .or .u8 b 1) = (c : Int) ∧ c < 256 ∧ (c : Int) ≠ a := by
  obtain ⟨x, rfl⟩ : ∃ n : Nat, a = n := ⟨a.toNat, by omega⟩
  obtain ⟨y, rfl⟩ : ∃ n : Nat, b = n := ⟨b.toNat, by omega⟩
  have h1 : Go.bits .or .u8 (y : Int) 1 = ((y ||| 1 : Nat) : Int) := u8_or y 1 (by omega) (by decide)
  have hlt : y ||| 1 < 256 := Nat.or_lt_two_pow (n := 8) (by omega) (by decide)
  have hne : y ||| 1 ≠ 0 := by have := Nat.right_le_or (n := y) (m := 1); omega
  rw [h1, u8_xor x (y ||| 1) (by omega) hlt]
  refine ⟨_, rfl, Nat.xor_lt_two_pow (n := 8) (by omega) hlt, fun e => hne ?_⟩
  have e2 : x ^^^ (y ||| 1) = x := by omega
  have e3 : x ^^^ (x ^^^ (y ||| 1)) = x ^^^ x := by rw [e2]
  rw [← Nat.xor_assoc, Nat.xor_self, Nat.zero_xor] at e3
  exact e3
/-- One byte as a text. -/
theorem one_byte (w : World) (c : Nat) (hc : c < 256) : ∃ s : ByteArray, s.data.toList = [UInt8.ofNat c] ∧ (convert 61 9 (.slice (some ⟨w.heap.size, 0, none⟩) 1 1)).run Tryd.prog (w.alloc (.cells #[.int .u8 (c : Int)] 5)) = .ok (.string s) (w.alloc (.cells #[.int .u8 (c : Int)] 5)) := by
  have e : ((UInt8.ofNat c).toNat : Int) = (c : Int) := by rw [UInt8.toNat_ofNat']; omega
  refine ⟨⟨[UInt8.ofNat c].toArray⟩, rfl, ?_⟩
  refine run_convert_bytes_back (P := Tryd.prog) (w.alloc (.cells #[.int .u8 (c : Int)] 5)) 61 9 5 ⟨w.heap.size, 0, none⟩ 1 [UInt8.ofNat c] (by kernel_rfl) (by kernel_rfl) (by kernel_rfl) ?_
  intro j hj
  obtain rfl : j = 0 := by simpa using hj
  have h := blk_cell (blk_new w (.cells #[.int .u8 (c : Int)] 5)) 0
  show (w.alloc _).cell? ((⟨w.heap.size, 0, none⟩ : Addr).add 0) = some (.int .u8 ((UInt8.ofNat c).toNat : Int))
  rw [add_plain, e]
  exact h
theorem preface_calls (a b : Int) (m : ByteArray) (w : World) (hG : GL w) (hb : 0 ≤ b ∧ b ≤ 255) (hm : m.size ≤ 140737488351232) : Calls Tryd.prog 10 #[.int .i64 a, .int .u8 b, .string m] w fun e w' => e = .returned (.bool true) ∧ Below w.heap.size w w' := by
  have HG := Aside0.mk hG
  have HBY := Aside0.mk hb
  have HM := Aside0.mk hm
  have LA := Aside0.mk (Below.refl w.heap.size w)
  obtain ⟨x, hx⟩ : ∃ x, Int.tmod a 24 = x := ⟨_, rfl⟩
  have HX : Aside0 (-24 < x ∧ x < 24) := ⟨by
    rw [← hx]
    have h1 := Int.tmod_lt_of_pos a (show (0 : Int) < 24 by decide)
    have h2 := Int.lt_tmod_of_pos a (show (0 : Int) < 24 by decide)
    omega⟩
  have hwx : wrap64 x = x := by have := HX.out; unfold wrap64; omega
  have hwn : wrap64 (-x) = -x := by have := HX.out; unfold wrap64; omega
  obtain ⟨k, hk⟩ : ∃ k : Nat, (if x < 0 then -x else x) = k := ⟨(if x < 0 then -x else x).toNat, by split <;> omega⟩
  have HK : Aside0 (k < 24) := ⟨by have := HX.out; split at hk <;> omega⟩
  have HKX := Aside0.mk hk
  clear hG hb hm hk
  go_enter Tryd.func10, Tryd.ntmps10
  go_upto_if 21 with (go_at_call 29; refine (head_calls _ HG.out).mono ?_; rintro e w0 ⟨rfl, hb⟩; have L0 := Aside0.mk hb; clear hb)
  clear LA
  obtain ⟨y, hy⟩ : ∃ y, decide (x < 0) = y := ⟨_, rfl⟩
  have HY := Aside0.mk hy
  go_upto_if 25 with fail
  clear hy
  go_cut [8] from 26 to 27 (fun v wc => v = .int .i64 (k : Int) ∧ Aside0 (wc = w0))
  case first =>
    cases y
    · have hk : Aside0 (x = (k : Int)) := ⟨by have h := HKX.out; have h2 := of_decide_eq_false HY.out; rw [if_neg h2] at h; exact h⟩
      go_wp2_with fail
      go_meet
      case rel => exact ⟨by rw [hk.out], ⟨rfl⟩⟩
    · have hk : Aside0 (-x = (k : Int)) := ⟨by have h := HKX.out; have h2 := of_decide_eq_true HY.out; rw [if_pos h2] at h; exact h⟩
      go_wp2_with fail
      go_meet
      case rel => exact ⟨by first | rw [hwn, hk.out] | rw [hk.out], ⟨rfl⟩⟩
  case rest =>
    obtain ⟨rfl, HWC⟩ := hcut
    rw [HWC.out]
    clear HWC hwx hwn hx
    obtain ⟨pf, hpf⟩ : ∃ p, prefaceB = p := ⟨_, rfl⟩
    rw [show (⟨#[80, 82, 73, 32, 42, 32, 72, 84, 84, 80, 47, 50, 46, 48, 13, 10, 13, 10, 83, 77, 13, 10, 13, 10]⟩ : ByteArray) = pf from hpf]
    have HPF := Aside0.mk hpf
    have hpz : pf.size = 24 := by rw [← hpf]; rfl
    have HPZ := Aside0.mk hpz
    clear hpf hpz
    go_upto_region 8 with (go_at_call 31; refine (new_calls true 16384 _).mono ?_; rintro e w2 ⟨rfl, hf, hb⟩; have F2_ := Aside0.mk hf; have L1_ := Aside0.mk (below_then L0.out L0.out.size hb); clear hf hb)
    obtain ⟨gF, hg⟩ : ∃ g, w0.heap.size = g := ⟨_, rfl⟩
    have HFW : Aside0 (w.heap.size ≤ gF) := ⟨by have := L0.out.size; omega⟩
    rw [hg] at F2_ ⊢
    clear hg
    go_upto_region 9 with (go_at_call 31; refine (new_calls true 16384 _).mono ?_; rintro e w5 ⟨rfl, hf, hb⟩; have K5_ := Aside0.mk hf; have F3_ := Aside0.mk (F2_.out.low hb); have L4_ := Aside0.mk (below_then L1_.out L1_.out.size hb); clear hf hb)
    obtain ⟨gK, hg⟩ : ∃ g, w2.heap.size = g := ⟨_, rfl⟩
    have HFK : Aside0 (gF ≠ gK) := ⟨by have := blk_lt F2_.out; omega⟩
    have HKW : Aside0 (w.heap.size ≤ gK) := ⟨by have := L1_.out.size; omega⟩
    rw [hg] at K5_ ⊢
    clear hg
    go_wp2_with fail
    go_loopw [11] (fun v w' => ∃ i : Nat, v = .int .i64 (i : Int) ∧ Aside0 (i ≤ k) ∧ Aside0 (FAt w' gF (fdP i)) ∧ Aside0 (FAt w' gK (newF true 16384)) ∧ Aside0 (Below w.heap.size w w')) (fun v _ => ((k : Int) - intOf v).toNat)
    case atStart => exact ⟨0, rfl, ⟨Nat.zero_le _⟩, F3_, K5_, L4_⟩
    case round =>
      obtain ⟨i, rfl, HI, FI_, KI_, LI_⟩ := hrel
      clear F3_ K5_ L4_
      by_cases hik : i < k
      · have d1 : decide ((i : Int) < (k : Int)) = true := decide_eq_true (by omega)
        have d2 : decide (i < k) = true := decide_eq_true hik
        obtain ⟨j, hj⟩ : ∃ j, i + 1 = j := ⟨_, rfl⟩
        have hw1 : wrap64 ((i : Int) + 1) = (j : Int) := by have := HK.out; unfold wrap64; omega
        have HIK : Aside0 (i < k ∧ i + 1 = j) := ⟨hik, hj⟩
        have j1 : (j : Int) ≤ (pf.size : Int) := by have := HK.out; have := HPZ.out; omega
        have j2 : (i : Int) ≤ (j : Int) := by omega
        have j0 : (0 : Int) ≤ (i : Int) := by omega
        have j3 : (i : Int) + 1 ≤ (pf.size : Int) := by have := HK.out; have := HPZ.out; omega
        have HPI : Aside0 (pushF (fdP i) (pf.extract i j) = fdP j ∧ nextF (fdP j) = (fdP j, ⟨Fr.zero, false, 0, 0⟩)) := ⟨by rw [← hj, ← HPF.out]; exact preface_in i (by have := HK.out; omega)⟩
        have hsz : (fdP j).wt.size = j := fdP_size j (by have := HK.out; omega)
        clear hj
        go_upto_region 15 with (go_at_call 32; refine (push_calls gF (fdP i) (pf.extract i j) _ FI_.out (by rw [fdP_size i (by have := HK.out; have := HIK.out; omega), ByteArray.size_extract]; have := HK.out; have := HIK.out; omega)).mono ?_; rintro e w8 ⟨rfl, hf, hc⟩; rw [HPI.out.1] at hf; have F6_ := Aside0.mk hf; have K7_ := Aside0.mk (hc.fat KI_.out HFK.out.symm); have L8_ := Aside0.mk (hc.below LI_.out HFW.out LI_.out.size); clear hf hc)
        go_upto_region 16 with (go_at_call 36; refine (next_calls gF (fdP j) _ (HG.out.below L8_.out) F6_.out (by rw [fdP_size j (by have := HK.out; have := HIK.out; omega)]; have := HK.out; have := HIK.out; omega) (fdP_pf j)).mono ?_; rintro e w11 hnx; rw [HPI.out.2] at hnx; obtain ⟨A6, c6, rfl, hr, hf, hc⟩ := hnx; have F9_ := Aside0.mk hf; have K10_ := Aside0.mk (hc.fat K7_.out HFK.out.symm); have L11_ := Aside0.mk (hc.below L8_.out HFW.out L8_.out.size); clear hf hc hr; simp only [Fr.cells, Fr.zero, pingF, List.length_nil])
        obtain ⟨Wa, hW⟩ : ∃ W, (w11.alloc (.cells #[.int .i64 0, .int .i64 0, .int .i64 0, .string ByteArray.empty, .int .i64 0, .int .i64 0, .bool false, .int .i64 0, .int .i64 0, .int .i64 0, .slice A6 0 c6] 24)).alloc (.cells #[.int .i64 0, .int .i64 0] 35) = W := ⟨_, rfl⟩
        obtain ⟨xa, hx⟩ : ∃ g, w11.heap.size = g := ⟨_, rfl⟩
        obtain ⟨ya, hy⟩ : ∃ g, xa + 1 = g := ⟨_, rfl⟩
        have hb : Below w11.heap.size w11 Wa := by rw [← hW]; exact below_alloc (below_alloc (Below.refl _ _) _) _
        have F12_ := Aside0.mk (F9_.out.low hb)
        have K13_ := Aside0.mk (K10_.out.low hb)
        have L14_ := Aside0.mk (below_then L11_.out L11_.out.size hb)
        have Xa15_ : Aside0 (Wa.heap[xa]? = some (.cells #[.int .i64 0, .int .i64 0, .int .i64 0, .string ByteArray.empty, .int .i64 0, .int .i64 0, .bool false, .int .i64 0, .int .i64 0, .int .i64 0, .slice A6 0 c6] 24 (0, 0))) := ⟨by rw [← hW, ← hx]; exact heap_alloc2_old _ _ _⟩
        have Ya16_ : Aside0 (Wa.heap[ya]? = some (.cells #[.int .i64 0, .int .i64 0] 35 (0, 0))) := ⟨by rw [← hy, ← hW, ← hx]; exact heap_alloc2_new _ _ _⟩
        have hyw : w.heap.size ≤ ya := by have h := L11_.out.size; omega
        rw [hW, hx, hy]
        clear hW hx hy hb
        have qYa0 := blk_cell Ya16_.out 0
        have qYa1 := blk_cell Ya16_.out 1
        go_wp2_with (go_at_call 35; refine (waiting_calls gF (fdP j) _ F12_.out).mono ?_; rintro e w21 ⟨rfl, hb⟩; have F17_ := Aside0.mk (F12_.out.low hb); have K18_ := Aside0.mk (K13_.out.low hb); have Xa19_ := Aside0.mk (blk_below Xa15_.out hb); have Ya20_ := Aside0.mk (blk_below Ya16_.out hb); have L21_ := Aside0.mk (below_then L14_.out L14_.out.size hb); clear hb)
        go_roundw
        case rel => exact ⟨j, congrArg (Value.int .i64) hw1, ⟨by have := HIK.out; omega⟩, F17_, K18_, L21_⟩
        case measure =>
          rw [hw1]
          show ((k : Int) - (j : Int)).toNat < ((k : Int) - (i : Int)).toNat
          have := HIK.out
          omega
      · have d1 : decide ((i : Int) < (k : Int)) = false := decide_eq_false (by omega)
        have d2 : decide (i < k) = false := decide_eq_false hik
        have hik2 : i = k := by have := HI.out; omega
        subst hik2
        clear hik
        have n1 : i < pf.size := by have := HK.out; have := HPZ.out; omega
        have n2 : (i : Int) < (pf.size : Int) := by omega
        have hbr := bt_range pf (i : Int)
        obtain ⟨u, hu⟩ : ∃ u, bt pf (i : Int) = u := ⟨_, rfl⟩
        have ht : ((pf[i]'n1).toNat : Int) = u := (bt_at pf i n1).trans hu
        obtain ⟨c, hc, hc1, hcn⟩ := odd_xor u b (by rw [← hu]; exact hbr) HBY.out
        have HC : Aside0 (c < 256 ∧ (c : Int) ≠ u) := ⟨hc1, hcn⟩
        have HU := Aside0.mk hu
        clear hbr hu hc1 hcn
        go_upto_region 19 with fail
        obtain ⟨sb, hsb, hcv⟩ := one_byte wr c HC.out.1
        have HSB : Aside0 (sb.size = 1) := ⟨congrArg List.length hsb⟩
        have HPW : Aside0 (nextF (pushF (fdP i) sb) = (fdBroken 16384 prefaceB 1, ⟨Fr.zero, false, 1, 0⟩)) := ⟨by
          refine preface_wrong i HK.out sb (UInt8.ofNat c) hsb (fun h => ?_)
          have h2 := bt_get prefaceB i _ h
          rw [UInt8.toNat_ofNat'] at h2
          have h3 := HU.out
          rw [← HPF.out, h2] at h3
          have := HC.out
          omega⟩
        clear hsb n1 n2 ht hc
        have hb : Below wr.heap.size wr (wr.alloc (.cells #[.int .u8 (c : Int)] 5)) := below_alloc (Below.refl _ _) _
        have F22_ := Aside0.mk (FI_.out.low hb)
        have K23_ := Aside0.mk (KI_.out.low hb)
        have L24_ := Aside0.mk (below_then LI_.out LI_.out.size hb)
        clear hb
        go_upto_region 20 with (go_at_call 32; refine (push_calls gF (fdP i) (sb) _ F22_.out (by rw [fdP_size i (by have := HK.out; omega), HSB.out]; have := HK.out; omega)).mono ?_; rintro e w27 ⟨rfl, hf, hc⟩; have F25_ := Aside0.mk hf; have K26_ := Aside0.mk (hc.fat K23_.out HFK.out.symm); have L27_ := Aside0.mk (hc.below L24_.out HFW.out L24_.out.size); clear hf hc)
        clear hcv
        go_upto_region 21 with (go_at_call 36; refine (next_calls gF (pushF (fdP i) sb) _ (HG.out.below L27_.out) F25_.out (by show (pushF (fdP i) sb).wt.size ≤ _; unfold pushF; have h1 := fdP_size i (by have := HK.out; omega); have h2 := HSB.out; have h3 := HK.out; split <;> first | (rw [h1]; omega) | (show ((fdP i).wt ++ sb).size ≤ _; rw [ByteArray.size_append, h1, h2]; omega)) (by unfold pushF; split <;> exact fdP_pf i)).mono ?_; rintro e w30 hnx; rw [HPW.out] at hnx; obtain ⟨A7, c7, rfl, hr, hf, hc⟩ := hnx; have F28_ := Aside0.mk hf; have K29_ := Aside0.mk (hc.fat K26_.out HFK.out.symm); have L30_ := Aside0.mk (hc.below L27_.out HFW.out L27_.out.size); clear hf hc hr; simp only [Fr.cells, Fr.zero, pingF, List.length_nil])
        obtain ⟨Wb, hW⟩ : ∃ W, (w30.alloc (.cells #[.int .i64 0, .int .i64 0, .int .i64 0, .string ByteArray.empty, .int .i64 0, .int .i64 0, .bool false, .int .i64 0, .int .i64 0, .int .i64 0, .slice A7 0 c7] 24)).alloc (.cells #[.int .i64 1, .int .i64 0] 35) = W := ⟨_, rfl⟩
        obtain ⟨xb, hx⟩ : ∃ g, w30.heap.size = g := ⟨_, rfl⟩
        obtain ⟨yb, hy⟩ : ∃ g, xb + 1 = g := ⟨_, rfl⟩
        have hb : Below w30.heap.size w30 Wb := by rw [← hW]; exact below_alloc (below_alloc (Below.refl _ _) _) _
        have F31_ := Aside0.mk (F28_.out.low hb)
        have K32_ := Aside0.mk (K29_.out.low hb)
        have L33_ := Aside0.mk (below_then L30_.out L30_.out.size hb)
        have Xb34_ : Aside0 (Wb.heap[xb]? = some (.cells #[.int .i64 0, .int .i64 0, .int .i64 0, .string ByteArray.empty, .int .i64 0, .int .i64 0, .bool false, .int .i64 0, .int .i64 0, .int .i64 0, .slice A7 0 c7] 24 (0, 0))) := ⟨by rw [← hW, ← hx]; exact heap_alloc2_old _ _ _⟩
        have Yb35_ : Aside0 (Wb.heap[yb]? = some (.cells #[.int .i64 1, .int .i64 0] 35 (0, 0))) := ⟨by rw [← hy, ← hW, ← hx]; exact heap_alloc2_new _ _ _⟩
        have hyw : w.heap.size ≤ yb := by have h := L30_.out.size; omega
        rw [hW, hx, hy]
        clear hW hx hy hb
        have HYW : Aside0 (w.heap.size ≤ yb) := ⟨hyw⟩
        have qYb0 := blk_cell Yb35_.out 0
        have qYb1 := blk_cell Yb35_.out 1
        go_upto_region 23 with (go_at_call 35; refine (waiting_calls gF (fdBroken 16384 prefaceB 1) _ F31_.out).mono ?_; rintro e w40 ⟨rfl, hb⟩; have F36_ := Aside0.mk (F31_.out.low hb); have K37_ := Aside0.mk (K32_.out.low hb); have Xb38_ := Aside0.mk (blk_below Xb34_.out hb); have Yb39_ := Aside0.mk (blk_below Yb35_.out hb); have L40_ := Aside0.mk (below_then L33_.out L33_.out.size hb); clear hb)
        repeat (rename World.cell? _ _ = _ => hh; clear hh)
        have hcat : (pf.size : Int) + (m.size : Int) ≤ 9223372036854775807 := by have := HPZ.out; have := HM.out; omega
        have hcat2 : pf.size + m.size ≤ 9223372036854775807 := by omega
        go_upto_region 24 with (go_at_call 32; refine (push_calls gF (fdBroken 16384 prefaceB 1) (pf ++ m) _ F36_.out (by show 0 + (pf ++ m).size ≤ _; rw [ByteArray.size_append]; have := HPZ.out; have := HM.out; omega)).mono ?_; rintro e w45 ⟨rfl, hf, hc⟩; rw [broken_push] at hf; have F41_ := Aside0.mk hf; have K42_ := Aside0.mk (hc.fat K37_.out HFK.out.symm); have Xb43_ := Aside0.mk (hc.blk Xb38_.out (blk_ne Xb38_.out F36_.out (by decide))); have Yb44_ := Aside0.mk (hc.blk Yb39_.out (blk_ne Yb39_.out F36_.out (by decide))); have L45_ := Aside0.mk (hc.below L40_.out HFW.out L40_.out.size); clear hf hc)
        go_upto_region 25 with (first
          | (go_at_call 36; refine (next_calls gF (fdBroken 16384 prefaceB 1) _ (HG.out.below L45_.out) F41_.out (by decide) (by decide)).mono ?_; rintro e w50 hnx; rw [broken_next] at hnx; obtain ⟨A8, c8, rfl, hr, hf, hc⟩ := hnx; have F46_ := Aside0.mk hf; have K47_ := Aside0.mk (hc.fat K42_.out HFK.out.symm); have Xb48_ := Aside0.mk (hc.blk Xb43_.out (blk_ne Xb43_.out F41_.out (by decide))); have Yb49_ := Aside0.mk (hc.blk Yb44_.out (blk_ne Yb44_.out F41_.out (by decide))); have L50_ := Aside0.mk (hc.below L45_.out HFW.out L45_.out.size); clear hf hc hr; simp only [Fr.cells, Fr.zero, pingF, List.length_nil])
          | (refine wpList_store_row rfl 35 _ _ rfl yb #[.int .i64 1, .int .i64 0] rfl rfl 35 _ Yb49_.out (by kernel_rfl) (by kernel_rfl) (by kernel_rfl) ?_; obtain ⟨W55, ew, q4, qo, qb⟩ := row_store _ yb #[.int .i64 1, .int .i64 0] 35 _ Yb49_.out; rw [ew]; have F51_ : Aside0 (FAt _ gF (fdBroken 16384 prefaceB 1)) := ⟨(qo _ (blk_ne F46_.out Yb49_.out (by decide))).trans F46_.out⟩; have K52_ : Aside0 (FAt _ gK (newF true 16384)) := ⟨(qo _ (blk_ne K47_.out Yb49_.out (by decide))).trans K47_.out⟩; have Xb53_ := Aside0.mk ((qo _ (blk_ne Xb48_.out Yb49_.out (by decide))).trans Xb48_.out); have Yb54_ := Aside0.mk q4; have L55_ := Aside0.mk (qb _ _ L50_.out HYW.out); clear q4 qo qb ew))
        have qYb0 := blk_cell Yb54_.out 0
        have qYb1 := blk_cell Yb54_.out 1
        go_upto_region 27 with (go_at_call 35; refine (waiting_calls gF (fdBroken 16384 prefaceB 1) _ F51_.out).mono ?_; rintro e w60 ⟨rfl, hb⟩; have F56_ := Aside0.mk (F51_.out.low hb); have K57_ := Aside0.mk (K52_.out.low hb); have Xb58_ := Aside0.mk (blk_below Xb53_.out hb); have Yb59_ := Aside0.mk (blk_below Yb54_.out hb); have L60_ := Aside0.mk (below_then L55_.out L55_.out.size hb); clear hb)
        repeat (rename World.cell? _ _ = _ => hh; clear hh)
        go_upto_region 28 with (go_at_call 32; refine (push_calls gK (newF true 16384) (pf) _ K57_.out (by show 0 + pf.size ≤ _; have := HPZ.out; omega)).mono ?_; rintro e w65 ⟨rfl, hf, hc⟩; rw [← HPF.out] at hf; have F61_ := Aside0.mk (hc.fat F56_.out HFK.out); have K62_ := Aside0.mk hf; have Xb63_ := Aside0.mk (hc.blk Xb58_.out (blk_ne Xb58_.out K57_.out (by decide))); have Yb64_ := Aside0.mk (hc.blk Yb59_.out (blk_ne Yb59_.out K57_.out (by decide))); have L65_ := Aside0.mk (hc.below L60_.out HKW.out L60_.out.size); clear hf hc)
        go_upto_region 29 with (first
          | (go_at_call 36; refine (next_calls gK (pushF (newF true 16384) prefaceB) _ (HG.out.below L65_.out) K62_.out (by decide) (by decide)).mono ?_; rintro e w70 hnx; rw [whole_next] at hnx; obtain ⟨A9, c9, rfl, hr, hf, hc⟩ := hnx; have F66_ := Aside0.mk (hc.fat F61_.out HFK.out); have K67_ := Aside0.mk hf; have Xb68_ := Aside0.mk (hc.blk Xb63_.out (blk_ne Xb63_.out K62_.out (by decide))); have Yb69_ := Aside0.mk (hc.blk Yb64_.out (blk_ne Yb64_.out K62_.out (by decide))); have L70_ := Aside0.mk (hc.below L65_.out HKW.out L65_.out.size); clear hf hc hr; simp only [Fr.cells, Fr.zero, pingF, List.length_nil])
          | (refine wpList_store_row rfl 35 _ _ rfl yb #[.int .i64 0, .int .i64 0] rfl rfl 35 _ Yb69_.out (by kernel_rfl) (by kernel_rfl) (by kernel_rfl) ?_; obtain ⟨W75, ew, q4, qo, qb⟩ := row_store _ yb #[.int .i64 0, .int .i64 0] 35 _ Yb69_.out; rw [ew]; have F71_ : Aside0 (FAt _ gF (fdBroken 16384 prefaceB 1)) := ⟨(qo _ (blk_ne F66_.out Yb69_.out (by decide))).trans F66_.out⟩; have K72_ : Aside0 (FAt _ gK (fdW ByteArray.empty)) := ⟨(qo _ (blk_ne K67_.out Yb69_.out (by decide))).trans K67_.out⟩; have Xb73_ := Aside0.mk ((qo _ (blk_ne Xb68_.out Yb69_.out (by decide))).trans Xb68_.out); have Yb74_ := Aside0.mk q4; have L75_ := Aside0.mk (qb _ _ L70_.out HYW.out); clear q4 qo qb ew))
        have qYb0 := blk_cell Yb74_.out 0
        have qYb1 := blk_cell Yb74_.out 1
        go_upto_region 31 with (go_at_call 35; refine (waiting_calls gK (fdW ByteArray.empty) _ K72_.out).mono ?_; rintro e w80 ⟨rfl, hb⟩; have F76_ := Aside0.mk (F71_.out.low hb); have K77_ := Aside0.mk (K72_.out.low hb); have Xb78_ := Aside0.mk (blk_below Xb73_.out hb); have Yb79_ := Aside0.mk (blk_below Yb74_.out hb); have L80_ := Aside0.mk (below_then L75_.out L75_.out.size hb); clear hb)
        repeat (rename World.cell? _ _ = _ => hh; clear hh)
        go_upto_region 32 with (go_at_call 32; refine (push_calls gK (fdW ByteArray.empty) (⟨#[0, 0, 8, 6, 0, 0, 0, 0, 0, 49, 50, 51, 52, 53, 54, 55, 56]⟩) _ K77_.out (by decide)).mono ?_; rintro e w85 ⟨rfl, hf, hc⟩; have F81_ := Aside0.mk (hc.fat F76_.out HFK.out); have K82_ := Aside0.mk hf; have Xb83_ := Aside0.mk (hc.blk Xb78_.out (blk_ne Xb78_.out K77_.out (by decide))); have Yb84_ := Aside0.mk (hc.blk Yb79_.out (blk_ne Yb79_.out K77_.out (by decide))); have L85_ := Aside0.mk (hc.below L80_.out HKW.out L80_.out.size); clear hf hc)
        go_upto_region 33 with (first
          | (go_at_call 36; refine (next_calls gK (pushF (fdW ByteArray.empty) pingB) _ (HG.out.below L85_.out) K82_.out (by decide) (by decide)).mono ?_; rintro e w90 hnx; rw [ping_next] at hnx; obtain ⟨A10, c10, rfl, hr, hf, hc⟩ := hnx; have F86_ := Aside0.mk (hc.fat F81_.out HFK.out); have K87_ := Aside0.mk hf; have Xb88_ := Aside0.mk (hc.blk Xb83_.out (blk_ne Xb83_.out K82_.out (by decide))); have Yb89_ := Aside0.mk (hc.blk Yb84_.out (blk_ne Yb84_.out K82_.out (by decide))); have L90_ := Aside0.mk (hc.below L85_.out HKW.out L85_.out.size); clear hf hc hr; simp only [Fr.cells, Fr.zero, pingF, List.length_nil]; have hb : Below w90.heap.size w90 (w90.alloc (.cells #[.int .i64 6, .int .i64 0, .int .i64 0, .string ⟨#[49, 50, 51, 52, 53, 54, 55, 56]⟩, .int .i64 0, .int .i64 0, .bool false, .int .i64 0, .int .i64 0, .int .i64 0, .slice A10 0 c10] 24)) := below_alloc (Below.refl _ _) _; have F91_ := Aside0.mk (F86_.out.low hb); have K92_ := Aside0.mk (K87_.out.low hb); have Xb93_ := Aside0.mk (blk_below Xb88_.out hb); have Yb94_ := Aside0.mk (blk_below Yb89_.out hb); have L95_ := Aside0.mk (below_then L90_.out L90_.out.size hb); have Xd96_ : Aside0 ((w90.alloc (.cells #[.int .i64 6, .int .i64 0, .int .i64 0, .string ⟨#[49, 50, 51, 52, 53, 54, 55, 56]⟩, .int .i64 0, .int .i64 0, .bool false, .int .i64 0, .int .i64 0, .int .i64 0, .slice A10 0 c10] 24)).heap[w90.heap.size]? = some (.cells #[.int .i64 6, .int .i64 0, .int .i64 0, .string ⟨#[49, 50, 51, 52, 53, 54, 55, 56]⟩, .int .i64 0, .int .i64 0, .bool false, .int .i64 0, .int .i64 0, .int .i64 0, .slice A10 0 c10] 24 (0, 0))) := ⟨blk_new _ _⟩; clear hb)
          | (refine wpList_store_row rfl 35 _ _ rfl yb #[.int .i64 0, .int .i64 0] rfl rfl 35 _ Yb94_.out (by kernel_rfl) (by kernel_rfl) (by kernel_rfl) ?_; obtain ⟨W102, ew, q4, qo, qb⟩ := row_store _ yb #[.int .i64 0, .int .i64 0] 35 _ Yb94_.out; rw [ew]; have F97_ : Aside0 (FAt _ gF (fdBroken 16384 prefaceB 1)) := ⟨(qo _ (blk_ne F91_.out Yb94_.out (by decide))).trans F91_.out⟩; have K98_ : Aside0 (FAt _ gK (fdW ByteArray.empty)) := ⟨(qo _ (blk_ne K92_.out Yb94_.out (by decide))).trans K92_.out⟩; have Xb99_ := Aside0.mk ((qo _ (blk_ne Xb93_.out Yb94_.out (by decide))).trans Xb93_.out); have Yb100_ := Aside0.mk q4; have Xd101_ := Aside0.mk ((qo _ (blk_ne Xd96_.out Yb94_.out (by decide))).trans Xd96_.out); have L102_ := Aside0.mk (qb _ _ L95_.out HYW.out); clear q4 qo qb ew))
        have qXd3 := blk_cell Xd101_.out 3
        have qYb0 := blk_cell Yb100_.out 0
        have qYb1 := blk_cell Yb100_.out 1
        go_wp2_with fail
        go_ret
        exact ⟨rfl, L102_.out⟩
end Go.Proofs.YtoffhlbdfhhhjaaDoor.Fr
