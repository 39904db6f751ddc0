/- The program's Ready: the streams of which a frame may go, rising, in memory of its own. The map and the list are no greater than memory lets them be. -/
import Derived.Test.YtedkjbdkokdgdaaMReadyA
import Derived.Test.YtedkjbdkokdgdaaShelf
import Derived.Sort.OwnSortedInts
import Derived.Laws.EntriesVeiled
namespace Go.Proofs.Ytedkjbdkokdgdaa.Sh
open Go Go.RowKit Go.Proofs.YtedkjbdkokdgdaaW.PrintWords Go.Proofs.YtedkjbdkokdgdaaW.PrintLast Go.Proofs.YtedkjbdkokdgdaaW.PrintMore Go.Proofs.Ytedkjbdkokdgdaa.QL
open Go.Sort
set_option linter.unusedSimpArgs false
set_option linter.unusedVariables false
set_option maxHeartbeats 4000000
set_option maxRecDepth 100000
theorem zero_t : Qu.zero.t.toList.isEmpty = true := by show ByteArray.empty.toList.isEmpty = true; rw [ByteArray.toList_eq]; rfl
/-- May a frame of it go? -/
def rdyB (q : Qu) (conn left : Int) : Bool := if q.t.toList.isEmpty = true then q.e else decide (0 < conn) && decide (0 < left)
theorem rdy_zero (conn left : Int) : rdyB Qu.zero conn left = false := by unfold rdyB; rw [if_pos zero_t]; rfl
/-- What Ready tells. -/
def RdyL (m : Int → Qu) (conn : Int) (l : List S50) (ids : List Int) : Prop := ids.Pairwise (· < ·) ∧ ∀ id, id ∈ ids ↔ rdyB (m id) conn (leftL id l) = true
/-- What has been gathered while some entries are still to come. -/
structure Gath (D : DataW Unit) (m : Int → Qu) (conn : Int) (l : List S50) (left : Lit → Bool) (ids : List Int) : Prop where
  nd : ids.Nodup
  mem : ∀ id, id ∈ ids ↔ (W64 id ∧ Maps.has D (.int .i64 id) = true ∧ left (.int .i64 id) = false ∧ rdyB (m id) conn (leftL id l) = true)
theorem Gath.start (D : DataW Unit) (m : Int → Qu) (conn : Int) (l : List S50) : Gath D m conn l (Maps.has D) [] := ⟨List.nodup_nil, fun id => ⟨fun h => (by cases h), fun h => (by have h1 := h.2.1; rw [h.2.2.1] at h1; cases h1)⟩⟩
theorem same_int (a b : Int) : (Lit.int .i64 a).sameKey (.int .i64 b) = decide (a = b) := by
  by_cases h : a = b
  · subst h
    rw [WideAt.sameKey_self (isKey a)]
    simp
  · rw [Maps.sameKey_ne (by simp; exact h)]
    simp [h]
theorem Gath.step_no {D : DataW Unit} {m : Int → Qu} {conn : Int} {l : List S50} {left : Lit → Bool} {ids : List Int} (h : Gath D m conn l left ids) (x : Int) (hr : rdyB (m x) conn (leftL x l) = false) : Gath D m conn l (fun z => left z && !z.sameKey (.int .i64 x)) ids := by
  refine ⟨h.nd, fun id => ?_⟩
  rw [h.mem id]
  simp only [same_int]
  by_cases e : id = x
  · subst e
    constructor
    · rintro ⟨_, _, _, h4⟩; rw [hr] at h4; cases h4
    · rintro ⟨_, _, _, h4⟩; rw [hr] at h4; cases h4
  · simp [e]
theorem Gath.step_yes {D : DataW Unit} {m : Int → Qu} {conn : Int} {l : List S50} {left : Lit → Bool} {ids : List Int} (h : Gath D m conn l left ids) (x : Int) (hw : W64 x) (hh : Maps.has D (.int .i64 x) = true) (hl : left (.int .i64 x) = true) (hr : rdyB (m x) conn (leftL x l) = true) : Gath D m conn l (fun z => left z && !z.sameKey (.int .i64 x)) (ids ++ [x]) := by
  have hx : x ∉ ids := fun hx => by have := ((h.mem x).1 hx).2.2.1; rw [hl] at this; cases this
  refine ⟨List.nodup_append.2 ⟨h.nd, (by simp), fun a ha b hb => by rw [List.mem_singleton.1 hb]; rintro rfl; exact hx ha⟩, fun id => ?_⟩
  rw [List.mem_append, List.mem_singleton, h.mem id]
  simp only [same_int]
  by_cases e : id = x
  · subst e
    simp [hw, hh, hr]
  · simp [e]
theorem Gath.end_ {D : DataW Unit} {m : Int → Qu} {conn : Int} {l : List S50} {left : Lit → Bool} {ids : List Int} (h : Gath D m conn l left ids) (hl : ∀ kl, left kl = false) (hD : ∀ id : Int, W64 id → D.atKey (.int .i64 id) (QD Qu.zero) = QD (m id)) (hs : ∀ id, m id ≠ Qu.zero → 1 ≤ id ∧ id ≤ 2147483647) : RdyL m conn l (ids.mergeSort fun x y => decide (x ≤ y)) := by
  have hp : (ids.mergeSort fun x y => decide (x ≤ y)).Perm ids := List.mergeSort_perm _ _
  refine ⟨?_, fun id => ?_⟩
  · have h1 : (ids.mergeSort fun x y => decide (x ≤ y)).Pairwise (fun a b => decide (a ≤ b) = true) := List.pairwise_mergeSort (fun a b c h1 h2 => by simp at *; omega) (fun a b => by simp; omega) _
    have h2 : (ids.mergeSort fun x y => decide (x ≤ y)).Pairwise (· ≠ ·) := (hp.nodup_iff).2 h.nd
    exact (h1.and h2).imp (fun h => by have := of_decide_eq_true h.1; omega)
  · rw [hp.mem_iff, h.mem id]
    constructor
    · exact fun h => h.2.2.2
    · intro hr
      have hnz : m id ≠ Qu.zero := by
        intro e
        rw [e, rdy_zero] at hr
        cases hr
      have hid := hs id hnz
      have hw : W64 id := ⟨by omega, by omega⟩
      refine ⟨hw, ?_, hl _, hr⟩
      cases hh : Maps.has D (.int .i64 id)
      · have h3 := hD id hw
        rw [Maps.atKey_of_not_has hh] at h3
        exact absurd (QD_inj h3).symm hnz
      · rfl
theorem info2 : (Try.prog.info? 2).map (fun i => (i.zero, i.size, i.bytes)) = some (some (.int .i64 0), 1, 8) := by kernel_rfl
/-- An answer of Ready. -/
def RdyPost (m : Int → Qu) (conn : Int) (l : List S50) (w : World) (e : Ending) (w' : World) : Prop := ∃ v ids, e = .returned v ∧ Kd.R (Kd.int .i64) 2 w' w.heap.size (fun _ => True) v ids ∧ RdyL m conn l ids ∧ RowKit.Below w.heap.size w w'
theorem ready_calls (p mb n : Nat) (m : Int → Qu) (conn : Int) (A : Option Addr) (c : Nat) (l : List S50) (w : World) (h : ShAt w p mb n m) (hn : n ≤ 1073741824) (hl : l.length ≤ 9223372036854775807) (hC : Kd.C k50 w A l.length l) :
    Calls Try.prog 18 #[.pointer (some ⟨p, 0, none⟩), .int .i64 conn, .slice A l.length c] w fun e w' => RdyPost m conn l w e w' := by
  have H := Aside0.mk h
  have HN := Aside0.mk hn
  have HL := Aside0.mk hl
  have HC := Aside0.mk hC
  have HB := Aside0.mk (RowKit.Below.refl w.heap.size w)
  obtain ⟨D, hown, hD⟩ := h.mq.own
  have HOW := Aside0.mk hown
  have HD := Aside0.mk hD
  have z0 := blk_cell h.blk 0
  clear h hn hl hC hD
  go_enter Try.func18, Try.ntmps18
  go_wp2_with (first
    | (at_range; refine wpList_range_own _ rfl _ 58 rfl 2 65 KK Try.underlying58 rdQ mb n D rfl hown ?_; intro w0 hrg0 hg0 hs0)
    | go_in)
  go_frame
  obtain ⟨r, hr⟩ : ∃ r, w.heap.size = r := ⟨_, rfl⟩
  have HRL : Aside0 (r < w0.heap.size ∧ w.heap.size = r) := ⟨by rw [hs0]; omega, hr⟩
  have HWR : Aside0 (w.heap.size = r) := ⟨hr⟩
  have HMB : Aside0 (mb < w.heap.size) := ⟨H.out.mq.lt⟩
  have hmf : ∀ (fn : Fn) (first cap : Array Value) (w : World), (Instr.makeFunc fn first cap).run Try.prog w = .ok (.func fn first cap) w := fun _ _ _ _ => rfl
  have L0 : Aside0 (RowKit.Below w.heap.size w w0) := ⟨(RowKit.Below.refl _ _).grown hg0 (Nat.le_refl _) (fun j hj => by cases hj)⟩
  rw [hr] at hrg0 ⊢
  clear hr hs0 z0 hg0 hown
  go_loopw [7] (fun v w' => ∃ (left : Lit → Bool) (cnt : Nat) (ids : List Int), Aside0 (w'.ranges Try.prog 2 rdQ mb r n D left cnt) ∧ Aside0 (Kd.R (Kd.int .i64) 2 w' w.heap.size (fun k => k ≠ r) v ids) ∧ Aside0 (Gath D m conn l left ids) ∧ Aside0 (ids.length + cnt ≤ n ∧ r < w'.heap.size) ∧ Aside0 (RowKit.Below w.heap.size w w')) (fun _ w' => w'.rangeLeft mb r)
  case atStart => exact ⟨_, _, [], ⟨hrg0⟩, ⟨Kd.R_nil _ _ _ _ _⟩, ⟨Gath.start D m conn l⟩, ⟨by have := HOW.out.size_le; simp only [List.length_nil]; omega, HRL.out.1⟩, L0⟩
  case round =>
    clear hrg0 L0 HRL
    obtain ⟨left, cnt, ids, HRG, R0, HGA, HC0, L0⟩ := hrel
    have HRL : Aside0 (r < wr.heap.size) := ⟨HC0.out.2⟩
    go_wp2_with (first
      | (at_next; refine wpList_next_ranges _ rfl _ rfl 2 KK rdQ (Value.int .i64) Qu.val (fun key kl hk => by obtain ⟨x, hx, _⟩ := Maps.keyOf_int_inv Try.underlying2 hk; exact ⟨x, hx⟩) (fun v y hv => by obtain ⟨q, hq, _⟩ := rdQ_inv hv; exact ⟨q, hq⟩) mb r n _ _ _ rfl HRG.out ?_ ?_)
      | go_in)
    · intro hc0 hl0
      have HEND := Aside0.mk (Gath.end_ HGA.out hl0 HD.out H.out.mq.sup)
      clear hc0 hl0
      have hrow := Kd.own_of_R R0.out
      rcases hrow.2 with ⟨hnil, h0⟩ | ⟨g, cap, cur, rfl, hbase, hb, h1, h2, h3, h4⟩
      · subst hnil
        have HI : Aside0 (ids = []) := ⟨List.length_eq_zero_iff.1 h0⟩
        clear h0 hrow
        go_wp2_with (go_at_call 30; refine (Try.slices_Sort_int_none none 0 _).mono ?_; rintro e w' ⟨rfl, hw⟩; subst hw)
        go_ret
        exact ⟨_, [], rfl, Kd.R_nil _ _ _ _ _, by have h := HEND.out; rw [HI.out] at h; simpa using h, L0.out⟩
      · have hH : Holds (Value.int .i64) wr g 0 ids.toArray := holds_of_blockI hb (by simpa [Kd.int, Kd.scalar, encs] using h4)
        have hgl : g < wr.heap.size := (Array.getElem?_eq_some_iff.1 hb).1
        have hc := Try.slices_Sort_int g 0 cap ids wr hH hgl (by have := HC0.out; have := HN.out; omega)
        have HSRT : Aside0 (∀ (nn : Nat) (os : Array Obj), Kd.R (Kd.int .i64) 2 (grow (putRow (Value.int .i64) (Sort.ahead wr nn) g 0 (ids.mergeSort fun x y => decide (x ≤ y)).toArray) os) w.heap.size (fun _ => True) (.slice (some ⟨g, 0, none⟩) ids.length cap) (ids.mergeSort fun x y => decide (x ≤ y)) ∧ RowKit.Below w.heap.size w (grow (putRow (Value.int .i64) (Sort.ahead wr nn) g 0 (ids.mergeSort fun x y => decide (x ≤ y)).toArray) os)) := ⟨fun nn os => ⟨by
          have hlen : (ids.mergeSort fun x y => decide (x ≤ y)).length = ids.length := List.length_mergeSort _
          have h := ownsRow_sortedI (n := nn) (os := os) hlen hbase hb h1 h2 (by simpa [Kd.int, Kd.scalar] using h3)
          refine Kd.R_of_own ?_ (fun _ _ => trivial)
          rw [hlen]
          exact h, L0.out.grown (grownBy_sortedI _) L0.out.size (fun j hj => by cases hj; exact hbase)⟩⟩
        clear hrow hb h1 h2 h3 h4 hbase hH hgl
        go_wp2_with (go_at_call 30; refine hc.mono ?_; rintro e w' ⟨rfl, nn, os, rfl⟩)
        go_ret
        exact ⟨_, _, rfl, (HSRT.out nn os).1, HEND.out, (HSRT.out nn os).2⟩
    · intro x q kl yd yp w2 cnt2 hkey hlk hv hat hrg2 hlt hg2 hs2 hen
      obtain ⟨x', ex, rfl, hwf⟩ := Maps.keyOf_int_inv Try.underlying2 hkey
      injection ex with _ ex
      subst ex
      have HWX := Aside0.mk (of_wf hwf)
      have HQM : Aside0 (q = m x) := ⟨by
        have h1 := hat (QD Qu.zero)
        rw [HD.out x HWX.out] at h1
        have h2 : QD q = yd := congrArg Prod.fst (Option.some.inj ((rdQ_val q).symm.trans hv))
        exact QD_inj (h2.trans h1.symm)⟩
      have HHAS := Aside0.mk (Maps.has_true_of_atKey hat)
      have HLK := Aside0.mk hlk
      have HLT := Aside0.mk hlt
      have HCN : Aside0 (ids.length + 1 + cnt2 ≤ n) := ⟨by have := HC0.out; omega⟩
      have hen2 : (Instr.entry (.pointer (some ⟨r, 0, none⟩))).run Try.prog w2 = .ok (.tuple #[.int .i64 x, .agg #[.string q.t, .bool q.o, .bool q.e]]) w2 := hen
      have R2 := Aside0.mk (Kd.R_grown R0.out hg2 (fun k hk e => hk (Option.some.inj e)))
      have L2 : Aside0 (RowKit.Below w.heap.size w w2) := ⟨L0.out.grown hg2 L0.out.size (fun j hj => by cases hj; exact Nat.le_of_eq HWR.out)⟩
      have HRL2 : Aside0 (r < w2.heap.size) := ⟨by have := HRL.out; rw [hs2]; exact this⟩
      have RG2 := Aside0.mk hrg2
      clear hkey hlk hv hat hrg2 hlt hg2 hs2 hen hwf HRL
      go_upto_region 5 with fail
      obtain ⟨W3, hW⟩ : ∃ W, (w2.alloc (.cells #[.int .i64 x] 2)).alloc (.cells #[.string q.t, .bool q.o, .bool q.e] 65) = W := ⟨_, rfl⟩
      obtain ⟨gk, hgk⟩ : ∃ g, w2.heap.size = g := ⟨_, rfl⟩
      obtain ⟨gq, hgq⟩ : ∃ g, gk + 1 = g := ⟨_, rfl⟩
      have hb3 : RowKit.Below w2.heap.size w2 W3 := by rw [← hW]; exact below_alloc (below_alloc (RowKit.Below.refl _ _) _) _
      have XK : Aside0 (W3.heap[gk]? = some (.cells #[.int .i64 x] 2 (0, 0))) := ⟨by rw [← hW, ← hgk]; exact heap_alloc2_old _ _ _⟩
      have XQ : Aside0 (W3.heap[gq]? = some (.cells #[.string q.t, .bool q.o, .bool q.e] 65 (0, 0))) := ⟨by rw [← hW, ← hgq, ← hgk]; exact heap_alloc2_new _ _ _⟩
      have RG3 := Aside0.mk (RG2.out.kept (grown_of (n := 0) hb3) (by simp) (by simp))
      have R3 := Aside0.mk (Kd.R_below R2.out hb3)
      have L3 := Aside0.mk (below_then L2.out L2.out.size hb3)
      have HRL : Aside0 (r < W3.heap.size) := ⟨by have := HRL2.out; have := hb3.size; omega⟩
      rw [hW, hgk, hgq]
      clear hW hgk hgq hb3 hen2 RG2 R2 L2 HRL2
      go_upto_region 7 with (go_at_call 28; refine (index_calls A c l x gk _ HL.out (Kd.C_below HC.out L3.out) XK.out).mono ?_; rintro e w4 ⟨ri, rfl, hb, hcase⟩; have HCA := Aside0.mk hcase; have XK4 := Aside0.mk (blk_below XK.out hb); have XQ4 := Aside0.mk (blk_below XQ.out hb); have RG4 := Aside0.mk (RG3.out.kept (grown_of (n := 0) hb) (by simp) (by simp)); have R4 := Aside0.mk (Kd.R_below R3.out hb); have L4 := Aside0.mk (below_then L3.out L3.out.size hb); have HRL4 : Aside0 (r < w4.heap.size) := ⟨by have := HRL.out; have := hb.size; omega⟩; clear hb hcase)
      clear XK XQ RG3 R3 L3 HRL
      have HRL := HRL4
      obtain ⟨lv, hlv⟩ : ∃ y, leftL x l = y := ⟨_, rfl⟩
      have HLV := Aside0.mk hlv
      clear hlv
      have zq0 := blk_cell XQ4.out 0
      have zq2 := blk_cell XQ4.out 2
      have zk := blk_cell XK4.out 0
      rcases HCA.out with ⟨rfl, h0⟩ | ⟨i, rfl, hi, hf⟩
      · have hl0 : Aside0 (lv = 0) := ⟨by rw [← HLV.out]; exact h0⟩
        obtain rfl := hl0.out
        clear h0 hl0 HCA
        obtain ⟨b, hb⟩ : ∃ y, q.t.toList.isEmpty = y := ⟨_, rfl⟩
        have HBB := Aside0.mk hb
        obtain ⟨qe, hqe⟩ : ∃ y, q.e = y := ⟨_, rfl⟩
        have HQE := Aside0.mk hqe
        rw [hqe] at zq2
        clear hqe
        cases b
        · by_cases hc : 0 < conn
          · have d1 : decide (0 < conn) = true := decide_eq_true hc
            clear hc
            have HRR : Aside0 (rdyB (m x) conn (leftL x l) = false) := ⟨by rw [← HQM.out]; unfold rdyB; rw [HLV.out]; rw [if_neg (by rw [HBB.out]; decide), decide_eq_false (show ¬ (0 : Int) < 0 by omega), Bool.and_false]⟩
            go_wp2_with fail
            go_roundw
            case rel => exact ⟨_, cnt2, ids, RG4, R4, ⟨Gath.step_no HGA.out x HRR.out⟩, ⟨by have := HCN.out; omega, HRL.out⟩, L4⟩
            case measure => rw [RG4.out.left_eq, HRG.out.left_eq]; exact HLT.out
          · have d1 : decide (0 < conn) = false := decide_eq_false hc
            clear hc
            have HRR : Aside0 (rdyB (m x) conn (leftL x l) = false) := ⟨by rw [← HQM.out]; unfold rdyB; rw [HLV.out]; rw [if_neg (by rw [HBB.out]; decide), decide_eq_false (show ¬ (0 : Int) < 0 by omega), Bool.and_false]⟩
            go_wp2_with fail
            go_roundw
            case rel => exact ⟨_, cnt2, ids, RG4, R4, ⟨Gath.step_no HGA.out x HRR.out⟩, ⟨by have := HCN.out; omega, HRL.out⟩, L4⟩
            case measure => rw [RG4.out.left_eq, HRG.out.left_eq]; exact HLT.out
        · cases qe
          · have HRR : Aside0 (rdyB (m x) conn (leftL x l) = false) := ⟨by rw [← HQM.out]; unfold rdyB; rw [HLV.out]; rw [if_pos HBB.out, HQE.out]⟩
            go_wp2_with fail
            go_roundw
            case rel => exact ⟨_, cnt2, ids, RG4, R4, ⟨Gath.step_no HGA.out x HRR.out⟩, ⟨by have := HCN.out; omega, HRL.out⟩, L4⟩
            case measure => rw [RG4.out.left_eq, HRG.out.left_eq]; exact HLT.out
          · have HRR : Aside0 (rdyB (m x) conn (leftL x l) = true) := ⟨by rw [← HQM.out]; unfold rdyB; rw [HLV.out]; rw [if_pos HBB.out, HQE.out]⟩
            go_wp2_with ((with_reducible refine gate_builtin (b := .append) (xs := #[.tmp 52, .tmp 54]) rfl ?_); at_builtin; refine Kd.R_append (Kd.int .i64) (w0 := w) w.heap.size rfl (.tmp 52) (.tmp 54) 22 2 _ 8 rfl Try.underlying22 info2 rfl (Nat.succ_pos 0) (Nat.succ_pos 7) _ ids x [.int .i64 x] (fun k => k ≠ r) (fun _ => False) rfl rfl rfl (fun _ h => h.elim) (fun k hk => by have := HRL.out; have := L4.out.size; omega) R4.out L4.out L4.out.size ?aL ?_; (case aL => have := HCN.out; have := HN.out; omega); intro v9 w9 ho hb hg hat; have R9 := Aside0.mk ho; have L9 := Aside0.mk hb; have HR9 : Aside0 (r < w9.heap.size) := ⟨by have h9 := hg.size; have := HRL.out; omega⟩; have RG9 := Aside0.mk (RG4.out.kept hg (fun e => by obtain ⟨inner, hrow⟩ := Kd.R_own R4.out; exact row_ne_low hrow HMB.out e) (fun e => R4.out.1 r e.symm rfl)); clear ho hb hg hat)
            go_roundw
            case rel => exact ⟨_, cnt2, ids ++ [x], RG9, R9, ⟨Gath.step_yes HGA.out x HWX.out HHAS.out HLK.out HRR.out⟩, ⟨by have := HCN.out; rw [List.length_append, List.length_singleton]; omega, HR9.out⟩, L9⟩
            case measure => rw [RG9.out.left_eq, HRG.out.left_eq]; exact HLT.out
      · have p0 : (0 : Int) ≤ (i : Int) := by omega
        have p1 : (i : Int) < (l.length : Int) := by omega
        obtain ⟨ad, hA, x0, x1⟩ := at_T50 (Kd.C_below HC.out L4.out) (i : Int) p0 p1
        have hrd : rd_T50 l (i : Int) = l.getD i z50 := by unfold rd_T50; rw [Int.toNat_natCast]
        rw [hrd, hf, HLV.out, Int.toNat_natCast] at x1
        clear x0 hrd hf hi HCA
        subst hA
        obtain ⟨b, hb⟩ : ∃ y, q.t.toList.isEmpty = y := ⟨_, rfl⟩
        have HBB := Aside0.mk hb
        obtain ⟨qe, hqe⟩ : ∃ y, q.e = y := ⟨_, rfl⟩
        have HQE := Aside0.mk hqe
        rw [hqe] at zq2
        clear hqe
        cases b
        · by_cases hc : 0 < conn
          · have d1 : decide (0 < conn) = true := decide_eq_true hc
            by_cases hv : 0 < lv
            · have d2 : decide (0 < lv) = true := decide_eq_true hv
              have HP : Aside0 (0 < conn ∧ 0 < lv) := ⟨hc, hv⟩
              clear hc hv
              have HRR : Aside0 (rdyB (m x) conn (leftL x l) = true) := ⟨by rw [← HQM.out]; unfold rdyB; rw [HLV.out]; rw [if_neg (by rw [HBB.out]; decide), decide_eq_true HP.out.1, decide_eq_true HP.out.2]; rfl⟩
              go_wp2_with ((with_reducible refine gate_builtin (b := .append) (xs := #[.tmp 52, .tmp 54]) rfl ?_); at_builtin; refine Kd.R_append (Kd.int .i64) (w0 := w) w.heap.size rfl (.tmp 52) (.tmp 54) 22 2 _ 8 rfl Try.underlying22 info2 rfl (Nat.succ_pos 0) (Nat.succ_pos 7) _ ids x [.int .i64 x] (fun k => k ≠ r) (fun _ => False) rfl rfl rfl (fun _ h => h.elim) (fun k hk => by have := HRL.out; have := L4.out.size; omega) R4.out L4.out L4.out.size ?aL ?_; (case aL => have := HCN.out; have := HN.out; omega); intro v9 w9 ho hb hg hat; have R9 := Aside0.mk ho; have L9 := Aside0.mk hb; have HR9 : Aside0 (r < w9.heap.size) := ⟨by have h9 := hg.size; have := HRL.out; omega⟩; have RG9 := Aside0.mk (RG4.out.kept hg (fun e => by obtain ⟨inner, hrow⟩ := Kd.R_own R4.out; exact row_ne_low hrow HMB.out e) (fun e => R4.out.1 r e.symm rfl)); clear ho hb hg hat)
              go_roundw
              case rel => exact ⟨_, cnt2, ids ++ [x], RG9, R9, ⟨Gath.step_yes HGA.out x HWX.out HHAS.out HLK.out HRR.out⟩, ⟨by have := HCN.out; rw [List.length_append, List.length_singleton]; omega, HR9.out⟩, L9⟩
              case measure => rw [RG9.out.left_eq, HRG.out.left_eq]; exact HLT.out
            · have d2 : decide (0 < lv) = false := decide_eq_false hv
              have HP : Aside0 (¬ 0 < lv) := ⟨hv⟩
              clear hc hv
              have HRR : Aside0 (rdyB (m x) conn (leftL x l) = false) := ⟨by rw [← HQM.out]; unfold rdyB; rw [HLV.out]; rw [if_neg (by rw [HBB.out]; decide), decide_eq_false HP.out, Bool.and_false]⟩
              go_wp2_with fail
              go_roundw
              case rel => exact ⟨_, cnt2, ids, RG4, R4, ⟨Gath.step_no HGA.out x HRR.out⟩, ⟨by have := HCN.out; omega, HRL.out⟩, L4⟩
              case measure => rw [RG4.out.left_eq, HRG.out.left_eq]; exact HLT.out
          · have d1 : decide (0 < conn) = false := decide_eq_false hc
            have HP : Aside0 (¬ 0 < conn) := ⟨hc⟩
            clear hc
            have HRR : Aside0 (rdyB (m x) conn (leftL x l) = false) := ⟨by rw [← HQM.out]; unfold rdyB; rw [HLV.out]; rw [if_neg (by rw [HBB.out]; decide), decide_eq_false HP.out, Bool.false_and]⟩
            go_wp2_with fail
            go_roundw
            case rel => exact ⟨_, cnt2, ids, RG4, R4, ⟨Gath.step_no HGA.out x HRR.out⟩, ⟨by have := HCN.out; omega, HRL.out⟩, L4⟩
            case measure => rw [RG4.out.left_eq, HRG.out.left_eq]; exact HLT.out
        · cases qe
          · have HRR : Aside0 (rdyB (m x) conn (leftL x l) = false) := ⟨by rw [← HQM.out]; unfold rdyB; rw [HLV.out]; rw [if_pos HBB.out, HQE.out]⟩
            go_wp2_with fail
            go_roundw
            case rel => exact ⟨_, cnt2, ids, RG4, R4, ⟨Gath.step_no HGA.out x HRR.out⟩, ⟨by have := HCN.out; omega, HRL.out⟩, L4⟩
            case measure => rw [RG4.out.left_eq, HRG.out.left_eq]; exact HLT.out
          · have HRR : Aside0 (rdyB (m x) conn (leftL x l) = true) := ⟨by rw [← HQM.out]; unfold rdyB; rw [HLV.out]; rw [if_pos HBB.out, HQE.out]⟩
            go_wp2_with ((with_reducible refine gate_builtin (b := .append) (xs := #[.tmp 52, .tmp 54]) rfl ?_); at_builtin; refine Kd.R_append (Kd.int .i64) (w0 := w) w.heap.size rfl (.tmp 52) (.tmp 54) 22 2 _ 8 rfl Try.underlying22 info2 rfl (Nat.succ_pos 0) (Nat.succ_pos 7) _ ids x [.int .i64 x] (fun k => k ≠ r) (fun _ => False) rfl rfl rfl (fun _ h => h.elim) (fun k hk => by have := HRL.out; have := L4.out.size; omega) R4.out L4.out L4.out.size ?aL ?_; (case aL => have := HCN.out; have := HN.out; omega); intro v9 w9 ho hb hg hat; have R9 := Aside0.mk ho; have L9 := Aside0.mk hb; have HR9 : Aside0 (r < w9.heap.size) := ⟨by have h9 := hg.size; have := HRL.out; omega⟩; have RG9 := Aside0.mk (RG4.out.kept hg (fun e => by obtain ⟨inner, hrow⟩ := Kd.R_own R4.out; exact row_ne_low hrow HMB.out e) (fun e => R4.out.1 r e.symm rfl)); clear ho hb hg hat)
            go_roundw
            case rel => exact ⟨_, cnt2, ids ++ [x], RG9, R9, ⟨Gath.step_yes HGA.out x HWX.out HHAS.out HLK.out HRR.out⟩, ⟨by have := HCN.out; rw [List.length_append, List.length_singleton]; omega, HR9.out⟩, L9⟩
            case measure => rw [RG9.out.left_eq, HRG.out.left_eq]; exact HLT.out
end Go.Proofs.Ytedkjbdkokdgdaa.Sh
