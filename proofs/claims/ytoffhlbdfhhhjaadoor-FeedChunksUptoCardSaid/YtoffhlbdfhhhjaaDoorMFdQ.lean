/- A feed: what it tells of pings, and of a wrong priority: plain facts. No condition. -/
import Derived.Laws.IdiomStrings
import Derived.Test.YtoffhlbdfhhhjaaDoorMFdH
namespace Go.Proofs.YtoffhlbdfhhhjaaDoor.Fr
open Go Go.RowKit Go.Proofs.YtoffhlbdfhhhjaaDoorW.PrintWords Go.Proofs.YtoffhlbdfhhhjaaDoorW.PrintLast Go.Proofs.YtoffhlbdfhhhjaaDoorW.PrintMore Go.Proofs.YtoffhlbdfhhhjaaDoor.QL
set_option linter.unusedSimpArgs false
set_option linter.unusedVariables false
set_option maxHeartbeats 4000000
set_option maxRecDepth 100000
theorem fdW_begun (t : ByteArray) : begunF (fdW t) = (true, fdW t) := by
  have h0 : min (fdW t).pf.size (fdW t).wt.size = 0 := Nat.zero_min _
  have he : (((fdW t).wt.extract 0 (min (fdW t).pf.size (fdW t).wt.size)).toList == ((fdW t).pf.extract 0 (min (fdW t).pf.size (fdW t).wt.size)).toList) = true := by
    rw [h0]
    apply beq_iff_eq.mpr
    rw [ByteArray.toList_eq, ByteArray.toList_eq, ex_list, ex_list]
    simp
  unfold begunF
  rw [if_neg (by rw [he]; decide), if_neg (by show ¬ t.size < 0; omega)]
  have e : (fdW t).wt.extract (fdW t).pf.size (fdW t).wt.size = t := by
    apply ba_ext
    show (t.extract 0 t.size).data.toList = t.data.toList
    rw [list_extract]
    rfl
  rw [e]
  rfl
theorem fdW_next (t : ByteArray) (R : Rd) (h : rdF t 16384 = R) (hc : ¬ (R.code ≠ 0 ∧ R.st = 0)) : nextF (fdW t) = (fdW (t.extract R.no.toNat t.size), if R.code ≠ 0 then ⟨Fr.zero, false, R.code, R.st⟩ else ⟨R.fr, decide (0 < R.no), 0, 0⟩) := by
  have hb : brB (fdW t) = false := rfl
  unfold nextF
  rw [if_neg (by rw [hb]; decide), fdW_begun, if_neg (show ¬ ((true, fdW t) : Bool × Fd).1 = false from fun h => by cases h)]
  have e : rdF ((true, fdW t) : Bool × Fd).2.wt ((true, fdW t) : Bool × Fd).2.most = R := h
  rw [e, if_neg hc]
  split
  · rfl
  · rfl
theorem tail_n (t : ByteArray) (k : Nat) (a r : List UInt8) (h : t.data.toList = a ++ r) (hk : a.length = k) : (t.extract k t.size).data.toList = r := by
  rw [list_extract, h, List.drop_append_of_le_length (by omega), List.drop_of_length_le (by omega), List.nil_append]
theorem ping_list : pingB.data.toList = headL pingF 8 ++ payB pingF := by kernel_rfl
theorem ping_first (t : ByteArray) (r : List UInt8) (h : t.data.toList = pingB.data.toList ++ r) : ∃ t' : ByteArray, t'.data.toList = r ∧ nextF (fdW t) = (fdW t', ⟨pingF, true, 0, 0⟩) := by
  have hr : rdF t 16384 = ⟨pingF, 9 + (8 : Nat), 0, 0⟩ := read_back pingF (by kernel_rfl) ⟨by kernel_rfl, by decide, by decide⟩ 8 (by kernel_rfl) 16384 (by decide) t r (by rw [h, ping_list, List.append_assoc])
  refine ⟨t.extract 17 t.size, tail_n t 17 _ r h (by kernel_rfl), ?_⟩
  rw [fdW_next t _ hr (by rintro ⟨q, _⟩; exact q rfl)]
  rfl
/-- A priority of four bytes is a fault of its stream. -/
theorem wrong_first (t : ByteArray) (id : Int) (v r : List UInt8) (h0 : 1 ≤ id) (h1 : id ≤ 2147483647) (hv : v.length = 4) (h : t.data.toList = [0, 0, 4, 2, 0] ++ be 4 id ++ v ++ r) : ∃ t' : ByteArray, t'.data.toList = r ∧ nextF (fdW t) = (fdW t', ⟨Fr.zero, false, 6, id⟩) := by
  obtain ⟨b0, b1, b2, b3, hbe⟩ : ∃ b0 b1 b2 b3, be 4 id = [b0, b1, b2, b3] := ⟨_, _, _, _, rfl⟩
  obtain ⟨v0, v1, v2, v3, rfl⟩ : ∃ v0 v1 v2 v3, v = [v0, v1, v2, v3] := by
    match v, hv with
    | [v0, v1, v2, v3], _ => exact ⟨v0, v1, v2, v3, rfl⟩
  have hl : t.data.toList = 0 :: 0 :: 4 :: 2 :: 0 :: b0 :: b1 :: b2 :: b3 :: v0 :: v1 :: v2 :: v3 :: r := by rw [h, hbe]; rfl
  have hsz : t.size = 13 + r.length := by rw [ba_size, hl]; simp; omega
  have hn : rdN t = 4 := by
    unfold rdN
    rw [num_list _ [0, 0, 4] (by rw [ex_list, hl]; rfl)]
    rfl
  have h3 : bt t 3 = 2 := bt_get t 3 2 (by rw [hl]; rfl)
  have h4 : bt t 4 = 0 := bt_get t 4 0 (by rw [hl]; rfl)
  have h5 : num (t.extract 5 9) = id := by
    rw [num_list _ (be 4 id) (by rw [ex_list, hl, hbe]; rfl)]
    exact be_num 4 id (by decide) (by omega) (by omega)
  have hrd0 : rd0 t = (⟨2, 0, id, ByteArray.empty, 0, 0, false, 0, 0, 0, []⟩ : Fr) := by
    unfold rd0
    rw [h3, h4, h5, Int.emod_eq_of_lt (by omega) (by omega)]
    rfl
  have hps : (t.extract 9 13).size = 4 := by rw [ByteArray.size_extract]; omega
  have hr : rdF t 16384 = ⟨Fr.zero, 9 + 4, 6, id⟩ := by
    unfold rdF
    rw [if_neg (by omega), hn, if_neg (by decide), if_neg (by omega), hrd0]
    show rdRest _ 4 (t.extract 9 13) = _
    have hst : stB 2 id = true := by
      show (if kSt 2 = 0 then id != 0 else if kSt 2 = 1 then id == 0 else true) = true
      rw [show kSt 2 = 0 from rfl, if_pos rfl]
      exact bne_iff_ne.mpr (by omega)
    have hah : aheadI (⟨2, 0, id, ByteArray.empty, 0, 0, false, 0, 0, 0, []⟩ : Fr) = 0 := by
      unfold aheadI
      rw [if_neg (fun h => absurd (show has 0 8 = true from h.1) (by decide)), if_neg (fun h => absurd (show (2 : Int) = 1 from h.1) (by decide)), if_neg (show ¬ (2 : Int) = 5 by decide)]
      rfl
    have hpd : padB (⟨2, 0, id, ByteArray.empty, 0, 0, false, 0, 0, 0, []⟩ : Fr) = false := show (decide ((2 : Int) < 10) && has 0 8) = false by decide
    unfold rdRest
    rw [if_neg (by show ¬ stB 2 id = false; rw [hst]; decide), if_neg (by rw [hah]; decide), if_neg (by rw [hpd]; rintro ⟨q, _⟩; cases q)]
    have ht : takes (if padB (⟨2, 0, id, ByteArray.empty, 0, 0, false, 0, 0, 0, []⟩ : Fr) = true then { (⟨2, 0, id, ByteArray.empty, 0, 0, false, 0, 0, 0, []⟩ : Fr) with pad := bt (t.extract 9 13) 0 } else ⟨2, 0, id, ByteArray.empty, 0, 0, false, 0, 0, 0, []⟩) (if padB (⟨2, 0, id, ByteArray.empty, 0, 0, false, 0, 0, 0, []⟩ : Fr) = true then (t.extract 9 13).extract 1 ((4 : Int) - bt (t.extract 9 13) 0).toNat else t.extract 9 13) = none := by
      have hp : ¬ padB (⟨2, 0, id, ByteArray.empty, 0, 0, false, 0, 0, 0, []⟩ : Fr) = true := by rw [hpd]; decide
      rw [if_neg hp, if_neg hp]
      unfold takes
      rw [if_neg (show ¬ (2 : Int) = 1 by decide), if_pos rfl, if_neg (by omega)]
    rw [ht]
    rfl
  refine ⟨t.extract 13 t.size, tail_n t 13 [0, 0, 4, 2, 0, b0, b1, b2, b3, v0, v1, v2, v3] r hl rfl, ?_⟩
  rw [fdW_next t _ hr (by rintro ⟨_, q⟩; have q : id = 0 := q; omega)]
  rfl
theorem empty_next : nextF (fdW ByteArray.empty) = (fdW ByteArray.empty, ⟨Fr.zero, false, 0, 0⟩) := by kernel_rfl
/-- The feed that a frame too long has broken. -/
def fdB6 (m : Int) : Fd := ⟨m, ByteArray.empty, ByteArray.empty, 6, 0⟩
theorem b6_next (m : Int) : nextF (fdB6 m) = (fdB6 m, ⟨Fr.zero, false, 6, 0⟩) := rfl
theorem b6_push (m : Int) (s : ByteArray) : pushF (fdB6 m) s = fdB6 m := rfl
def longB : ByteArray := ⟨#[0, 0, 8, 6, 0, 0, 0, 0, 0, 49, 50, 51, 52, 53, 54, 55, 56, 0, 64, 1, 0, 0, 0, 0, 0, 1, 0, 0, 8, 6, 0, 0, 0, 0, 0, 49, 50, 51, 52, 53, 54, 55, 56]⟩
def longR : ByteArray := ⟨#[0, 64, 1, 0, 0, 0, 0, 0, 1, 0, 0, 8, 6, 0, 0, 0, 0, 0, 49, 50, 51, 52, 53, 54, 55, 56]⟩
theorem long_next1 : nextF (pushF (newF false 16384) longB) = (fdW longR, ⟨pingF, true, 0, 0⟩) := by kernel_rfl
theorem long_next2 : nextF (fdW longR) = (fdB6 16384, ⟨Fr.zero, false, 6, 0⟩) := by kernel_rfl
/-- A push on a broken feed: of any text. -/
theorem push_broken (g : Nat) (f : Fd) (s : ByteArray) (w : World) (h : FAt w g f) (hb : brB f = true) : Calls Tryd.prog 32 #[.pointer (some ⟨g, 0, none⟩), .string s] w fun e w' => e = .returned (.tuple #[]) ∧ FAt w' g f ∧ Chg g w w' := by
  have H := Aside0.mk h
  have HX := Aside0.mk hb
  clear h hb
  go_enter Tryd.func32, Tryd.ntmps32
  go_upto_if 6 with (go_at_call 67; refine (broken_calls g f true _ H.out HX.out).mono ?_; rintro e w3 ⟨rfl, hb⟩; have H3 := Aside0.mk (H.out.low hb); have L3 := Aside0.mk hb; clear hb)
  go_wp2_with fail
  go_end0
  exact ⟨rfl, H3.out, Chg.of L3.out⟩
theorem u32_and (a : Int) : ∃ n : Nat, Go.bits .and .u32 a 2147483647 = (n : Int) ∧ n ≤ 2147483647 := by
  have e : Go.bits .and .u32 a 2147483647 = IntKind.u32.wrap ((BitVec.ofInt 32 a &&& BitVec.ofInt 32 2147483647).toNat : Int) := rfl
  have hle : (BitVec.ofInt 32 a &&& BitVec.ofInt 32 2147483647).toNat ≤ 2147483647 := by
    rw [BitVec.toNat_and]
    exact Nat.le_trans Nat.and_le_right (by decide)
  refine ⟨_, ?_, hle⟩
  rw [e]
  have hw : ∀ n : Nat, n ≤ 2147483647 → IntKind.u32.wrap (n : Int) = (n : Int) := by
    intro n hn
    simp [IntKind.wrap, IntKind.bits, IntKind.signed]
    omega
  exact hw _ hle
/-- Four bytes as a text. -/
theorem four_bytes (w : World) (a b c d : Int) (ha : 0 ≤ a ∧ a ≤ 255) (hb : 0 ≤ b ∧ b ≤ 255) (hc : 0 ≤ c ∧ c ≤ 255) (hd : 0 ≤ d ∧ d ≤ 255) : ∃ s : ByteArray, s.data.toList = [UInt8.ofNat a.toNat, UInt8.ofNat b.toNat, UInt8.ofNat c.toNat, UInt8.ofNat d.toNat] ∧ (convert 61 9 (.slice (some ⟨w.heap.size, 0, none⟩) 4 4)).run Tryd.prog (w.alloc (.cells #[.int .u8 a, .int .u8 b, .int .u8 c, .int .u8 d] 5)) = .ok (.string s) (w.alloc (.cells #[.int .u8 a, .int .u8 b, .int .u8 c, .int .u8 d] 5)) := by
  have e : ∀ x : Int, 0 ≤ x ∧ x ≤ 255 → ((UInt8.ofNat x.toNat).toNat : Int) = x := fun x h => by rw [UInt8.toNat_ofNat']; omega
  refine ⟨⟨[UInt8.ofNat a.toNat, UInt8.ofNat b.toNat, UInt8.ofNat c.toNat, UInt8.ofNat d.toNat].toArray⟩, rfl, ?_⟩
  refine run_convert_bytes_back (P := Tryd.prog) (w.alloc (.cells #[.int .u8 a, .int .u8 b, .int .u8 c, .int .u8 d] 5)) 61 9 5 ⟨w.heap.size, 0, none⟩ 4 [UInt8.ofNat a.toNat, UInt8.ofNat b.toNat, UInt8.ofNat c.toNat, UInt8.ofNat d.toNat] (by kernel_rfl) (by kernel_rfl) (by kernel_rfl) ?_
  intro j hj
  have hj4 : j = 0 ∨ j = 1 ∨ j = 2 ∨ j = 3 := by have : j < 4 := hj; omega
  have h := fun i => blk_cell (blk_new w (.cells #[.int .u8 a, .int .u8 b, .int .u8 c, .int .u8 d] 5)) i
  rw [add_plain]
  rcases hj4 with rfl | rfl | rfl | rfl
  · show (w.alloc _).cell? ⟨w.heap.size, 0 + 0, none⟩ = some (.int .u8 ((UInt8.ofNat a.toNat).toNat : Int))
    rw [e a ha]
    exact h 0
  · show (w.alloc _).cell? ⟨w.heap.size, 0 + 1, none⟩ = some (.int .u8 ((UInt8.ofNat b.toNat).toNat : Int))
    rw [e b hb]
    exact h 1
  · show (w.alloc _).cell? ⟨w.heap.size, 0 + 2, none⟩ = some (.int .u8 ((UInt8.ofNat c.toNat).toNat : Int))
    rw [e c hc]
    exact h 2
  · show (w.alloc _).cell? ⟨w.heap.size, 0 + 3, none⟩ = some (.int .u8 ((UInt8.ofNat d.toNat).toNat : Int))
    rw [e d hd]
    exact h 3
end Go.Proofs.YtoffhlbdfhhhjaaDoor.Fr
