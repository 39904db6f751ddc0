/- The table's streams one by one: Live and Count. Each statement has its own conditions. -/
import Derived.Test.YtagkncjdohljgaaDoorMTab
import Derived.Test.YtagkncjdohljgaaDoorShelf
import Derived.Laws.EntriesVeiled
import Derived.Sort.OwnSortedInts
namespace Go.Proofs.YtagkncjdohljgaaDoor.St
open Go Go.Sort Go.RowKit Go.Proofs.YtagkncjdohljgaaDoorW.PrintWords Go.Proofs.YtagkncjdohljgaaDoorW.PrintLast Go.Proofs.YtagkncjdohljgaaDoorW.PrintMore Go.Proofs.YtagkncjdohljgaaDoor.QL
set_option linter.unusedSimpArgs false
set_option linter.unusedVariables false
set_option maxHeartbeats 4000000
set_option maxRecDepth 100000
/-- What the range has gathered: those of which P holds. -/
structure Gath (D : DataW Unit) (P : Int → Bool) (left : Lit → Bool) (ids : List Int) : Prop where
  nd : ids.Nodup
  mem : ∀ id, id ∈ ids ↔ (W64 id ∧ Maps.has D (.int .i64 id) = true ∧ left (.int .i64 id) = false ∧ P id = true)
theorem Gath.start (D : DataW Unit) (P : Int → Bool) : Gath D P (Maps.has D) [] := ⟨List.nodup_nil, fun id => ⟨fun h => (by cases h), fun h => (by have h1 := h.2.1; rw [h.2.2.1] at h1; cases h1)⟩⟩
theorem same_int (a b : Int) : (Lit.int .i64 a).sameKey (.int .i64 b) = decide (a = b) := by
  by_cases h : a = b
  · subst h
    rw [WideAt.sameKey_self (isKey a)]
    simp
  · rw [Maps.sameKey_ne (by simp; exact h)]
    simp [h]
theorem Gath.step_no {D : DataW Unit} {P : Int → Bool} {left : Lit → Bool} {ids : List Int} (h : Gath D P left ids) (x : Int) (hr : P x = false) : Gath D P (fun z => left z && !z.sameKey (.int .i64 x)) ids := by
  refine ⟨h.nd, fun id => ?_⟩
  rw [h.mem id]
  simp only [same_int]
  by_cases e : id = x
  · subst e
    constructor
    · rintro ⟨_, _, _, h4⟩; rw [hr] at h4; cases h4
    · rintro ⟨_, _, _, h4⟩; rw [hr] at h4; cases h4
  · simp [e]
theorem Gath.step_yes {D : DataW Unit} {P : Int → Bool} {left : Lit → Bool} {ids : List Int} (h : Gath D P left ids) (x : Int) (hw : W64 x) (hh : Maps.has D (.int .i64 x) = true) (hl : left (.int .i64 x) = true) (hr : P x = true) : Gath D P (fun z => left z && !z.sameKey (.int .i64 x)) (ids ++ [x]) := by
  have hx : x ∉ ids := fun hx => by have := ((h.mem x).1 hx).2.2.1; rw [hl] at this; cases this
  refine ⟨List.nodup_append.2 ⟨h.nd, (by simp), fun a ha b hb => by rw [List.mem_singleton.1 hb]; rintro rfl; exact hx ha⟩, fun id => ?_⟩
  rw [List.mem_append, List.mem_singleton, h.mem id]
  simp only [same_int]
  by_cases e : id = x
  · subst e
    simp [hw, hh, hr]
  · simp [e]
theorem Gath.end_ {D : DataW Unit} {P : Int → Bool} {left : Lit → Bool} {ids : List Int} {pt : Int → Option Nat} (h : Gath D P left ids) (hl : ∀ kl, left kl = false) (hD : ∀ id : Int, W64 id → D.atKey (.int .i64 id) (PD none) = PD (pt id)) (hs : ∀ id, pt id ≠ none → 1 ≤ id ∧ id ≤ 2147483647) (hP : ∀ id, P id = true → pt id ≠ none) : ids.Nodup ∧ ∀ id, id ∈ ids ↔ P id = true := by
  refine ⟨h.nd, fun id => ?_⟩
  rw [h.mem id]
  constructor
  · exact fun h => h.2.2.2
  · intro hr
    have hnz := hP id hr
    have hid := hs id hnz
    have hw : W64 id := ⟨by omega, by omega⟩
    refine ⟨hw, ?_, hl _, hr⟩
    cases hh : Maps.has D (.int .i64 id)
    · have h3 := hD id hw
      rw [Maps.atKey_of_not_has hh] at h3
      exact absurd (PD_inj h3).symm hnz
    · rfl
/-- The sorted list of a list without twins. -/
theorem sorted_of {ids : List Int} {P : Int → Bool} (h : ids.Nodup ∧ ∀ id, id ∈ ids ↔ P id = true) : (ids.mergeSort fun x y => decide (x ≤ y)).Pairwise (· < ·) ∧ ∀ id, id ∈ (ids.mergeSort fun x y => decide (x ≤ y)) ↔ P id = true := by
  have hp : (ids.mergeSort fun x y => decide (x ≤ y)).Perm ids := List.mergeSort_perm _ _
  refine ⟨?_, fun id => by rw [hp.mem_iff]; exact h.2 id⟩
  have h1 : (ids.mergeSort fun x y => decide (x ≤ y)).Pairwise (fun a b => decide (a ≤ b) = true) := List.pairwise_mergeSort (fun a b c h1 h2 => by simp at *; omega) (fun a b => by simp; omega) _
  have h2 : (ids.mergeSort fun x y => decide (x ≤ y)).Pairwise (· ≠ ·) := (hp.nodup_iff).2 h.1
  exact (h1.and h2).imp (fun h => by have := of_decide_eq_true h.1; omega)
theorem info2 : (Tryd.prog.info? 2).map (fun i => (i.zero, i.size, i.bytes)) = some (some (.int .i64 0), 1, 8) := by kernel_rfl
/-- Neither idle nor closed. -/
def Tb.liveB (T : Tb) (id : Int) : Bool := match T.m id with | some x => decide (x.s ≠ 6) | none => false
def LivL (T : Tb) (ids : List Int) : Prop := ids.Pairwise (· < ·) ∧ ∀ id, id ∈ ids ↔ T.liveB id = true
def LivPost (T : Tb) (w : World) (e : Ending) (w' : World) : Prop := ∃ v ids, e = .returned v ∧ Kd.R (Kd.int .i64) 2 w' w.heap.size (fun _ => True) v ids ∧ LivL T ids ∧ RowKit.Below w.heap.size w w'
def cntS (s : Int) : Bool := decide (s = 3 ∨ s = 4 ∨ s = 5)
def Tb.cntB (T : Tb) (loc : Bool) (id : Int) : Bool := match T.m id with | some x => ((decide (id % 2 = 1) == T.cl) == loc) && cntS x.s | none => false
def CntL (T : Tb) (loc : Bool) (ids : List Int) : Prop := ids.Nodup ∧ ∀ id, id ∈ ids ↔ T.cntB loc id = true
theorem live_calls (base : Nat) (S : Nat → Prop) (p : Nat) (T : Tb) (w : World) (h : TAt w base S p T) : Calls Tryd.prog 20 #[.pointer (some ⟨p, 0, none⟩)] w fun e w' => LivPost T w e w' := by
  have H := Aside0.mk h
  have HB := Aside0.mk (RowKit.Below.refl w.heap.size w)
  obtain ⟨mb, pt, hb, hm, hn, hx, _, _⟩ := h.ex
  obtain ⟨n, hnn⟩ : ∃ n, (T.l0 + T.l1).toNat = n := ⟨_, rfl⟩
  have HNB : Aside0 (n ≤ 4294967294) := ⟨by have := h.ok.b0; have := h.ok.b1; omega⟩
  rw [hnn] at hm
  have HM := Aside0.mk hm
  have HN := Aside0.mk hn
  have HX := Aside0.mk hx
  obtain ⟨D, hown, hD, hDS⟩ := hm.own
  have HDS := Aside0.mk hDS
  have HOW := Aside0.mk hown
  have HD := Aside0.mk hD
  have z1 := blk_cell hb 1
  have HPB := Aside0.mk hb
  clear h hb hm hn hx hD hDS hnn
  go_enter Tryd.func20, Tryd.ntmps20
  go_wp2_with (first
    | (at_range; refine wpList_range_own _ rfl _ 59 rfl 2 71 KK Tryd.underlying59 rdP mb n D rfl hown ?_; intro w0 hrg0 hg0 hs0)
    | go_in)
  go_frame
  obtain ⟨r, hr⟩ : ∃ r, w.heap.size = r := ⟨_, rfl⟩
  have HRL : Aside0 (r < w0.heap.size ∧ w.heap.size = r) := ⟨by rw [hs0]; omega, hr⟩
  have HWR : Aside0 (w.heap.size = r) := ⟨hr⟩
  have HMB : Aside0 (mb < w.heap.size) := ⟨HM.out.lt⟩
  have L0 : Aside0 (RowKit.Below w.heap.size w w0) := ⟨(RowKit.Below.refl _ _).grown hg0 (Nat.le_refl _) (fun j hj => by cases hj)⟩
  rw [hr] at hrg0 ⊢
  clear hr hs0 z1 hg0 hown
  go_loopw [3] (fun v w' => ∃ (left : Lit → Bool) (cnt : Nat) (ids : List Int), Aside0 (w'.ranges Tryd.prog 2 rdP mb r n D left cnt) ∧ Aside0 (Kd.R (Kd.int .i64) 2 w' w.heap.size (fun k => k ≠ r) v ids) ∧ Aside0 (Gath D T.liveB left ids) ∧ Aside0 (ids.length + cnt ≤ n ∧ r < w'.heap.size) ∧ Aside0 (RowKit.Below w.heap.size w w')) (fun _ w' => w'.rangeLeft mb r)
  case atStart => exact ⟨_, _, [], ⟨hrg0⟩, ⟨Kd.R_nil _ _ _ _ _⟩, ⟨Gath.start D _⟩, ⟨by have := HOW.out.size_le; simp only [List.length_nil]; omega, HRL.out.1⟩, L0⟩
  case round =>
    clear hrg0 L0 HRL
    obtain ⟨left, cnt, ids, HRG, R0, HGA, HC0, L0⟩ := hrel
    have HRL : Aside0 (r < wr.heap.size) := ⟨HC0.out.2⟩
    go_wp2_with (first
      | (at_next; refine wpList_next_ranges _ rfl _ rfl 2 KK rdP (Value.int .i64) pv (fun key kl hk => by obtain ⟨x, hx, _⟩ := Maps.keyOf_int_inv Tryd.underlying2 hk; exact ⟨x, hx⟩) (fun v y hv => by obtain ⟨q, hq, _⟩ := rdP_inv hv; exact ⟨q, hq⟩) mb r n _ _ _ rfl HRG.out ?_ ?_)
      | go_in)
    · intro hc0 hl0
      have HEND := Aside0.mk (sorted_of (Gath.end_ HGA.out hl0 HD.out HM.out.sup (fun id hp e => by
        unfold Tb.liveB at hp
        rcases hmi : T.m id with _ | y
        · rw [hmi] at hp; cases hp
        · obtain ⟨b, hb1, _⟩ := HX.out id y hmi
          rw [hb1] at e
          cases e)))
      clear hc0 hl0
      have hrow := Kd.own_of_R R0.out
      rcases hrow.2 with ⟨hnil, h0⟩ | ⟨g, cap, cur, rfl, hbase, hb, h1, h2, h3, h4⟩
      · subst hnil
        have HI : Aside0 (ids = []) := ⟨List.length_eq_zero_iff.1 h0⟩
        clear h0 hrow
        go_wp2_with (go_at_call 38; refine (Tryd.slices_Sort_int_none none 0 _).mono ?_; rintro e w' ⟨rfl, hw⟩; subst hw)
        go_ret
        exact ⟨_, [], rfl, Kd.R_nil _ _ _ _ _, by have h := HEND.out; rw [HI.out] at h; simpa [LivL] using h, L0.out⟩
      · have hH : Holds (Value.int .i64) wr g 0 ids.toArray := holds_of_blockI hb (by simpa [Kd.int, Kd.scalar, encs] using h4)
        have hgl : g < wr.heap.size := (Array.getElem?_eq_some_iff.1 hb).1
        have hc := Tryd.slices_Sort_int g 0 cap ids wr hH hgl (by have := HC0.out; have := HNB.out; omega)
        have HSRT : Aside0 (∀ (nn : Nat) (os : Array Obj), Kd.R (Kd.int .i64) 2 (grow (putRow (Value.int .i64) (Sort.ahead wr nn) g 0 (ids.mergeSort fun x y => decide (x ≤ y)).toArray) os) w.heap.size (fun _ => True) (.slice (some ⟨g, 0, none⟩) ids.length cap) (ids.mergeSort fun x y => decide (x ≤ y)) ∧ RowKit.Below w.heap.size w (grow (putRow (Value.int .i64) (Sort.ahead wr nn) g 0 (ids.mergeSort fun x y => decide (x ≤ y)).toArray) os)) := ⟨fun nn os => ⟨by
          have hlen : (ids.mergeSort fun x y => decide (x ≤ y)).length = ids.length := List.length_mergeSort _
          have h := ownsRow_sortedI (n := nn) (os := os) hlen hbase hb h1 h2 (by simpa [Kd.int, Kd.scalar] using h3)
          refine Kd.R_of_own ?_ (fun _ _ => trivial)
          rw [hlen]
          exact h, L0.out.grown (grownBy_sortedI _) L0.out.size (fun j hj => by cases hj; exact hbase)⟩⟩
        clear hrow hb h1 h2 h3 h4 hbase hH hgl
        go_wp2_with (go_at_call 38; refine hc.mono ?_; rintro e w' ⟨rfl, nn, os, rfl⟩)
        go_ret
        exact ⟨_, _, rfl, (HSRT.out nn os).1, HEND.out, (HSRT.out nn os).2⟩
    · intro x q kl yd yp w2 cnt2 hkey hlk hv hat hrg2 hlt hg2 hs2 hen
      obtain ⟨x', ex, rfl, hwf⟩ := Maps.keyOf_int_inv Tryd.underlying2 hkey
      injection ex with _ ex
      subst ex
      have HWX := Aside0.mk (of_wf hwf)
      have HQM0 : q = pt x := by
        have h1 := hat (PD none)
        rw [HD.out x HWX.out] at h1
        have h2 : PD q = yd := congrArg Prod.fst (Option.some.inj ((rdP_val q).symm.trans hv))
        exact PD_inj (h2.trans h1.symm)
      have hhas := Maps.has_true_of_atKey hat
      have hpn := HDS.out x HWX.out hhas
      obtain ⟨y, hy⟩ : ∃ y, T.m x = some y := by
        rcases e : T.m x with _ | y
        · exact absurd (HN.out x e) hpn
        · exact ⟨y, rfl⟩
      obtain ⟨b, hb1, hb2, _⟩ := HX.out x y hy
      rw [hb1] at HQM0
      subst HQM0
      have HY := Aside0.mk hy
      have HHAS := Aside0.mk hhas
      have HLK := Aside0.mk hlk
      have HLT := Aside0.mk hlt
      have HCN : Aside0 (ids.length + 1 + cnt2 ≤ n) := ⟨by have := HC0.out; omega⟩
      have hen2 : (Instr.entry (.pointer (some ⟨r, 0, none⟩))).run Tryd.prog w2 = .ok (.tuple #[.int .i64 x, .pointer (some ⟨b, 0, none⟩)]) w2 := hen
      have L2 : Aside0 (RowKit.Below w.heap.size w w2) := ⟨L0.out.grown hg2 L0.out.size (fun j hj => by cases hj; exact Nat.le_of_eq HWR.out)⟩
      have HRL2 : Aside0 (r < w2.heap.size) := ⟨by have := HRL.out; rw [hs2]; exact this⟩
      have RG2 := Aside0.mk hrg2
      have HBB := Aside0.mk (blk_below hb2 L2.out)
      have y0 : w2.cell? ⟨b, 0, none⟩ = some (.int .i64 y.s) := blk_cell HBB.out 0
      have R2 := Aside0.mk (Kd.R_grown R0.out hg2 (fun k hk e => hk (Option.some.inj e)))
      clear hkey hlk hv hat hrg2 hlt hg2 hs2 hen hwf HRL hhas hpn hy hb1 hb2
      by_cases h6 : y.s = 6
      · have n6 : (y.s == 6) = true := beq_iff_eq.mpr h6
        have n7 : (y.s != 6) = false := by simp [h6]
        have HPF : Aside0 (T.liveB x = false) := ⟨by unfold Tb.liveB; rw [HY.out]; simp [h6]⟩
        clear h6
        go_wp2_with fail
        go_roundw
        case rel => exact ⟨_, cnt2, ids, RG2, R2, ⟨Gath.step_no HGA.out x HPF.out⟩, ⟨by have := HCN.out; omega, HRL2.out⟩, L2⟩
        case measure => rw [RG2.out.left_eq, HRG.out.left_eq]; exact HLT.out
      · have n6 : (y.s == 6) = false := beq_eq_false_iff_ne.mpr h6
        have n7 : (y.s != 6) = true := by simp [h6]
        have HPT : Aside0 (T.liveB x = true) := ⟨by unfold Tb.liveB; rw [HY.out]; simp [h6]⟩
        clear h6
        go_wp2_with ((with_reducible refine gate_builtin (b := .append) (xs := #[.tmp 21, .tmp 23]) rfl ?_); at_builtin; refine Kd.R_append (Kd.int .i64) (w0 := w) w.heap.size rfl (.tmp 21) (.tmp 23) 28 2 _ 8 rfl Tryd.underlying28 info2 rfl (Nat.succ_pos 0) (Nat.succ_pos 7) _ ids x [.int .i64 x] (fun k => k ≠ r) (fun _ => False) rfl rfl rfl (fun _ h => h.elim) (fun k hk => by have := HRL2.out; have := L2.out.size; omega) R2.out L2.out L2.out.size (by have := HCN.out; have := HNB.out; omega) ?_; intro v9 w9 ho hb hg hat; have R9 := Aside0.mk ho; have L9 := Aside0.mk hb; have HR9 : Aside0 (r < w9.heap.size) := ⟨by have h9 := hg.size; have := HRL2.out; omega⟩; have RG9 := Aside0.mk (RG2.out.kept hg (fun e => by obtain ⟨inner, hrow⟩ := Kd.R_own R2.out; exact row_ne_low hrow HMB.out e) (fun e => R2.out.1 r e.symm rfl)); clear ho hb hg hat)
        go_roundw
        case rel => exact ⟨_, cnt2, ids ++ [x], RG9, R9, ⟨Gath.step_yes HGA.out x HWX.out HHAS.out HLK.out HPT.out⟩, ⟨by have := HCN.out; rw [List.length_append, List.length_singleton]; omega, HR9.out⟩, L9⟩
        case measure => rw [RG9.out.left_eq, HRG.out.left_eq]; exact HLT.out
theorem ours_calls (base : Nat) (S : Nat → Prop) (p : Nat) (T : Tb) (id : Int) (w : World) (h : TAt w base S p T) (hid : 1 ≤ id) : Calls Tryd.prog 35 #[.pointer (some ⟨p, 0, none⟩), .int .i64 id] w fun e w' => e = .returned (.bool (decide (id % 2 = 1) == T.cl)) ∧ w = w' := by
  obtain ⟨mb, pt, hb, _⟩ := h.ex
  have z0 := blk_cell hb 0
  obtain ⟨c, hc⟩ : ∃ c, T.cl = c := ⟨_, rfl⟩
  rw [hc] at z0 ⊢
  clear hc hb h
  rcases par hid with ⟨p1, p2⟩ | ⟨p1, p2⟩
  · rw [decide_eq_false (by omega)]
    clear p1 hid
    cases c
    all_goals
      go_enter Tryd.func35, Tryd.ntmps35
      go_wp2_with fail
      go_ret
      exact ⟨rfl, rfl⟩
  · rw [decide_eq_true p1]
    clear p1 hid
    cases c
    all_goals
      go_enter Tryd.func35, Tryd.ntmps35
      go_wp2_with fail
      go_ret
      exact ⟨rfl, rfl⟩
theorem counts_f (s : Int) (h1 : 1 ≤ s) (h6 : s ≤ 6) : state_Counts.f 10 s = some (cntS s) := by
  obtain rfl | rfl | rfl | rfl | rfl | rfl : s = 1 ∨ s = 2 ∨ s = 3 ∨ s = 4 ∨ s = 5 ∨ s = 6 := by omega
  all_goals decide +kernel
theorem count_calls (base : Nat) (S : Nat → Prop) (p : Nat) (T : Tb) (loc : Bool) (w : World) (h : TAt w base S p T) : Calls Tryd.prog 15 #[.pointer (some ⟨p, 0, none⟩), .bool loc] w fun e w' => ∃ ids : List Int, e = .returned (.int .i64 (ids.length : Int)) ∧ CntL T loc ids ∧ RowKit.Below w.heap.size w w' := by
  have H := Aside0.mk h
  have HB := Aside0.mk (RowKit.Below.refl w.heap.size w)
  obtain ⟨mb, pt, hb, hm, hn, hx, _, _⟩ := h.ex
  obtain ⟨n, hnn⟩ : ∃ n, (T.l0 + T.l1).toNat = n := ⟨_, rfl⟩
  have HNB : Aside0 (n ≤ 4294967294) := ⟨by have := h.ok.b0; have := h.ok.b1; omega⟩
  rw [hnn] at hm
  have HM := Aside0.mk hm
  have HN := Aside0.mk hn
  have HX := Aside0.mk hx
  obtain ⟨D, hown, hD, hDS⟩ := hm.own
  have HDS := Aside0.mk hDS
  have HOW := Aside0.mk hown
  have HD := Aside0.mk hD
  have z1 := blk_cell hb 1
  have HPB := Aside0.mk hb
  clear h hb hm hn hx hD hDS hnn
  go_enter Tryd.func15, Tryd.ntmps15
  go_wp2_with (first
    | (at_range; refine wpList_range_own _ rfl _ 59 rfl 2 71 KK Tryd.underlying59 rdP mb n D rfl hown ?_; intro w0 hrg0 hg0 hs0)
    | go_in)
  go_frame
  obtain ⟨r, hr⟩ : ∃ r, w.heap.size = r := ⟨_, rfl⟩
  have HRL : Aside0 (r < w0.heap.size ∧ w.heap.size = r) := ⟨by rw [hs0]; omega, hr⟩
  have HWR : Aside0 (w.heap.size = r) := ⟨hr⟩
  have HMB : Aside0 (mb < w.heap.size) := ⟨HM.out.lt⟩
  have L0 : Aside0 (RowKit.Below w.heap.size w w0) := ⟨(RowKit.Below.refl _ _).grown hg0 (Nat.le_refl _) (fun j hj => by cases hj)⟩
  rw [hr] at hrg0 ⊢
  clear hr hs0 z1 hg0 hown
  go_loopw [5] (fun v w' => ∃ (left : Lit → Bool) (cnt : Nat) (ids : List Int), v = .int .i64 (ids.length : Int) ∧ Aside0 (w'.ranges Tryd.prog 2 rdP mb r n D left cnt) ∧ Aside0 (Gath D (T.cntB loc) left ids) ∧ Aside0 (ids.length + cnt ≤ n ∧ r < w'.heap.size) ∧ Aside0 (RowKit.Below w.heap.size w w')) (fun _ w' => w'.rangeLeft mb r)
  case atStart => exact ⟨_, _, [], rfl, ⟨hrg0⟩, ⟨Gath.start D _⟩, ⟨by have := HOW.out.size_le; simp only [List.length_nil]; omega, HRL.out.1⟩, L0⟩
  case round =>
    clear hrg0 L0 HRL
    obtain ⟨left, cnt, ids, rfl, HRG, HGA, HC0, L0⟩ := hrel
    have HRL : Aside0 (r < wr.heap.size) := ⟨HC0.out.2⟩
    go_wp2_with (first
      | (at_next; refine wpList_next_ranges _ rfl _ rfl 2 KK rdP (Value.int .i64) pv (fun key kl hk => by obtain ⟨x, hx, _⟩ := Maps.keyOf_int_inv Tryd.underlying2 hk; exact ⟨x, hx⟩) (fun v y hv => by obtain ⟨q, hq, _⟩ := rdP_inv hv; exact ⟨q, hq⟩) mb r n _ _ _ rfl HRG.out ?_ ?_)
      | go_in)
    · intro hc0 hl0
      have HEND := Aside0.mk (Gath.end_ HGA.out hl0 HD.out HM.out.sup (fun id hp e => by
        unfold Tb.cntB at hp
        rcases hmi : T.m id with _ | y
        · rw [hmi] at hp; cases hp
        · obtain ⟨b, hb1, _⟩ := HX.out id y hmi
          rw [hb1] at e
          cases e))
      clear hc0 hl0
      go_wp2_with fail
      go_ret
      exact ⟨ids, rfl, HEND.out, L0.out⟩
    · intro x q kl yd yp w2 cnt2 hkey hlk hv hat hrg2 hlt hg2 hs2 hen
      obtain ⟨x', ex, rfl, hwf⟩ := Maps.keyOf_int_inv Tryd.underlying2 hkey
      injection ex with _ ex
      subst ex
      have HWX := Aside0.mk (of_wf hwf)
      have HQM0 : q = pt x := by
        have h1 := hat (PD none)
        rw [HD.out x HWX.out] at h1
        have h2 : PD q = yd := congrArg Prod.fst (Option.some.inj ((rdP_val q).symm.trans hv))
        exact PD_inj (h2.trans h1.symm)
      have hhas := Maps.has_true_of_atKey hat
      have hpn := HDS.out x HWX.out hhas
      obtain ⟨y, hy⟩ : ∃ y, T.m x = some y := by
        rcases e : T.m x with _ | y
        · exact absurd (HN.out x e) hpn
        · exact ⟨y, rfl⟩
      obtain ⟨b, hb1, hb2, _⟩ := HX.out x y hy
      rw [hb1] at HQM0
      subst HQM0
      have HY := Aside0.mk hy
      have HHAS := Aside0.mk hhas
      have HLK := Aside0.mk hlk
      have HLT := Aside0.mk hlt
      have HCN : Aside0 (ids.length + 1 + cnt2 ≤ n) := ⟨by have := HC0.out; omega⟩
      have hen2 : (Instr.entry (.pointer (some ⟨r, 0, none⟩))).run Tryd.prog w2 = .ok (.tuple #[.int .i64 x, .pointer (some ⟨b, 0, none⟩)]) w2 := hen
      have L2 : Aside0 (RowKit.Below w.heap.size w w2) := ⟨L0.out.grown hg2 L0.out.size (fun j hj => by cases hj; exact Nat.le_of_eq HWR.out)⟩
      have HRL2 : Aside0 (r < w2.heap.size) := ⟨by have := HRL.out; rw [hs2]; exact this⟩
      have RG2 := Aside0.mk hrg2
      have HBB := Aside0.mk (blk_below hb2 L2.out)
      have y0 : w2.cell? ⟨b, 0, none⟩ = some (.int .i64 y.s) := blk_cell HBB.out 0
      clear hkey hlk hv hat hrg2 hlt hg2 hs2 hen hwf HRL hhas hpn hy hb1 hb2
      have HX1 : Aside0 (1 ≤ x) := ⟨(H.out.ok.at_ x y HY.out).1⟩
      obtain ⟨cs, hcs⟩ : ∃ c, cntS y.s = c := ⟨_, rfl⟩
      have HCF : Aside0 (state_Counts.f 10 y.s = some cs) := ⟨by rw [← hcs]; exact counts_f y.s (H.out.ok.at_ x y HY.out).2.2.1 (H.out.ok.at_ x y HY.out).2.2.2⟩
      obtain ⟨ob, hob⟩ : ∃ c, (decide (x % 2 = 1) == T.cl) = c := ⟨_, rfl⟩
      have HOB := Aside0.mk hob
      have HPV : Aside0 (T.cntB loc x = ((ob == loc) && cs)) := ⟨by unfold Tb.cntB; rw [HY.out]; dsimp only; rw [hob, hcs]⟩
      clear hcs hob
      by_cases ho : ob = loc
      · have o1 : (ob == loc) = true := beq_iff_eq.mpr ho
        rw [o1, Bool.true_and] at HPV
        clear ho
        cases cs
        · go_wp2_with (first | (go_at_call 35; refine (ours_calls base S p T x _ (H.out.low L2.out) HX1.out).mono ?_; rintro e w3 ⟨rfl, rfl⟩; rw [HOB.out]) | (go_at_call 24; refine (state_Counts.calls 10 y.s _ _ HCF.out).mono ?_; rintro e w4 ⟨rfl, hb⟩; have RG4 := Aside0.mk (RG2.out.kept (grown_of hb) (by simp) (by simp)); have L4 := Aside0.mk (below_then L2.out L2.out.size hb); have HR4 : Aside0 (r < w4.heap.size) := ⟨by have := HRL2.out; have := hb.size; omega⟩; clear hb))
          go_roundw
          case rel => exact ⟨_, cnt2, ids, rfl, RG4, ⟨Gath.step_no HGA.out x HPV.out⟩, ⟨by have := HCN.out; omega, HR4.out⟩, L4⟩
          case measure => rw [RG4.out.left_eq, HRG.out.left_eq]; exact HLT.out
        · have hw1 : wrap64 ((ids.length : Int) + 1) = (((ids ++ [x]).length : Nat) : Int) := by rw [List.length_append, List.length_singleton]; have := HCN.out; have := HNB.out; unfold wrap64; omega
          go_wp2_with (first | (go_at_call 35; refine (ours_calls base S p T x _ (H.out.low L2.out) HX1.out).mono ?_; rintro e w3 ⟨rfl, rfl⟩; rw [HOB.out]) | (go_at_call 24; refine (state_Counts.calls 10 y.s _ _ HCF.out).mono ?_; rintro e w4 ⟨rfl, hb⟩; have RG4 := Aside0.mk (RG2.out.kept (grown_of hb) (by simp) (by simp)); have L4 := Aside0.mk (below_then L2.out L2.out.size hb); have HR4 : Aside0 (r < w4.heap.size) := ⟨by have := HRL2.out; have := hb.size; omega⟩; clear hb))
          go_roundw
          case rel => exact ⟨_, cnt2, ids ++ [x], congrArg (Value.int .i64) hw1, RG4, ⟨Gath.step_yes HGA.out x HWX.out HHAS.out HLK.out HPV.out⟩, ⟨by have := HCN.out; rw [List.length_append, List.length_singleton]; omega, HR4.out⟩, L4⟩
          case measure => rw [RG4.out.left_eq, HRG.out.left_eq]; exact HLT.out
      · have o1 : (ob == loc) = false := beq_eq_false_iff_ne.mpr ho
        rw [o1, Bool.false_and] at HPV
        clear ho
        go_wp2_with (go_at_call 35; refine (ours_calls base S p T x _ (H.out.low L2.out) HX1.out).mono ?_; rintro e w3 ⟨rfl, rfl⟩; rw [HOB.out])
        go_roundw
        case rel => exact ⟨_, cnt2, ids, rfl, RG2, ⟨Gath.step_no HGA.out x HPV.out⟩, ⟨by have := HCN.out; omega, HRL2.out⟩, L2⟩
        case measure => rw [RG2.out.left_eq, HRG.out.left_eq]; exact HLT.out
end Go.Proofs.YtagkncjdohljgaaDoor.St
