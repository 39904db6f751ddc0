/- What the laws of this chapter share: an event on a table, the document's first example. The package's variables hold what the program lays. -/
import Derived.Test.YtagkncjdohljgaaDoorMDone
namespace Go.Proofs.YtagkncjdohljgaaDoor.St
open Go Go.RowKit Go.Proofs.YtagkncjdohljgaaDoorW.PrintWords Go.Proofs.YtagkncjdohljgaaDoorW.PrintLast Go.Proofs.YtagkncjdohljgaaDoorW.PrintMore Go.Proofs.YtagkncjdohljgaaDoor.QL
set_option linter.unusedSimpArgs false
set_option linter.unusedVariables false
set_option maxHeartbeats 4000000
set_option maxRecDepth 100000
def n0 : Int → Option Sx := fun _ => none
def F1 : Tb := ⟨true, updP n0 1 ⟨4, false⟩, 0, 1⟩
def F2 : Tb := ⟨true, updP F1.m 2 ⟨2, false⟩, 2, 1⟩
def F3 : Tb := ⟨true, updP F2.m 2 ⟨6, true⟩, 2, 1⟩
theorem act1 : (Tb.new true).act 1 false 2 = ((0, 0), F1) := by kernel_rfl
theorem act2 : F1.act 2 true 5 = ((0, 0), F2) := by kernel_rfl
theorem act3 : F2.act 2 false 6 = ((0, 0), F3) := by kernel_rfl
theorem act4 : F3.act 2 true 1 = ((1, 0), F3) := by kernel_rfl
theorem act5 : F3.act 3 true 1 = ((3, 1), F3) := by kernel_rfl
theorem next0 : (Tb.new true).next = (1, true) := by kernel_rfl
theorem next3 : F3.next = (3, true) := by kernel_rfl
theorem stt2 : F2.stt 1 = 4 := by kernel_rfl
theorem cut2 : F3.cut 2 = true := by kernel_rfl
theorem cut1 : F3.cut 1 = false := by kernel_rfl
theorem last3 : F3.lastk false = 2 := by kernel_rfl
theorem F3m (id : Int) : F3.m id = if id = 2 then some ⟨6, true⟩ else if id = 1 then some ⟨4, false⟩ else none := by
  show (if id = 2 then some (⟨6, true⟩ : Sx) else if id = 2 then some ⟨2, false⟩ else if id = 1 then some ⟨4, false⟩ else none) = _
  split
  · rfl
  · rfl
theorem only_one {ids : List Int} (h : ids.Nodup) (h1 : ∀ id, id ∈ ids ↔ id = 1) : ids = [1] := by
  cases ids with
  | nil => exact absurd ((h1 1).2 rfl) (by simp)
  | cons a l =>
    obtain rfl := (h1 a).1 (List.mem_cons_self ..)
    cases l with
    | nil => rfl
    | cons b l =>
      obtain rfl := (h1 b).1 (by simp)
      simp at h
theorem cnt_true {ids : List Int} (h : CntL F3 true ids) : ids = [1] := by
  refine only_one h.1 fun id => ?_
  rw [h.2 id]
  unfold Tb.cntB
  rw [F3m]
  by_cases h2 : id = 2
  · subst h2; simp [F3, cntS]
  · rw [if_neg h2]
    by_cases h1 : id = 1
    · subst h1; simp [F3, cntS]
    · rw [if_neg h1]; simp [h1]
theorem cnt_false {ids : List Int} (h : CntL F3 false ids) : ids = [] := by
  refine List.eq_nil_iff_forall_not_mem.2 fun id hm => ?_
  rw [h.2 id] at hm
  unfold Tb.cntB at hm
  rw [F3m] at hm
  by_cases h2 : id = 2
  · subst h2; simp [F3, cntS] at hm
  · rw [if_neg h2] at hm
    by_cases h1 : id = 1
    · subst h1; simp [F3, cntS] at hm
    · rw [if_neg h1] at hm; simp at hm
theorem live_one {ids : List Int} (h : LivL F3 ids) : ids = [1] := by
  refine only_one (h.1.imp (fun hab => Int.ne_of_lt hab)) fun id => ?_
  rw [h.2 id]
  unfold Tb.liveB
  rw [F3m]
  by_cases h2 : id = 2
  · subst h2; simp
  · rw [if_neg h2]
    by_cases h1 : id = 1
    · subst h1; simp
    · rw [if_neg h1]; simp [h1]
theorem C_one {w : World} {g : Nat} {t : TypeId} {a : Int} (h : w.heap[g]? = some (.cells #[.int .i64 a] t (0, 0))) : Kd.C (Kd.int .i64) w (some ⟨g, 0, none⟩) 1 [a] := by
  refine ⟨rfl, by omega, fun _ => ⟨_, rfl, fun j p hp => ?_⟩⟩
  have hj : j = 0 := by
    cases j with
    | zero => rfl
    | succ j => simp at hp
  subst hj
  obtain rfl : a = p := by simpa using hp
  refine ⟨_, rfl, rfl, fun i u hu => ?_⟩
  have hi : i = 0 := by have := (List.getElem?_eq_some_iff.1 hu).1; simpa using this
  subst hi
  obtain rfl : Value.int .i64 a = u := by simpa using hu
  show w.cell? ((⟨g, 0, none⟩ : Addr).add (0 * 1 + 0)) = _
  rw [add_plain]
  exact blk_cell h 0
theorem R_slice_int {W : World} {base : Nat} {ok : Nat → Prop} {v : Value} {l : List Int} (h : Kd.R (Kd.int .i64) 2 W base ok v l) : ∃ A c, v = .slice A l.length c ∧ l.length ≤ c ∧ Kd.C (Kd.int .i64) W A l.length l := Kd.R_reads h
theorem drawn_below {w w' : World} (h : Drawn0 w w') : Below w.heap.size w w' := by
  obtain ⟨n, rfl⟩ := h
  exact pw_below_drewN (Below.refl _ _) n
theorem wrap_succ {i : Nat} (h : i < 9223372036854775807) : wrap64 ((i : Int) + 1) = ((i + 1 : Nat) : Int) := by unfold wrap64; omega
theorem same_l0 (l : List Int) (hl : l.length ≤ 9223372036854775807) : ∀ (n i : Nat), l.length - i < n → i ≤ l.length → heraldlaw11_sameInts.l0 n l l (i : Int) = some true
  | 0, i, h, _ => by omega
  | n + 1, i, h, hi => by
    unfold heraldlaw11_sameInts.l0
    by_cases hx : i < l.length
    · rw [if_pos (by omega), if_pos (by omega), if_pos (by omega), if_pos rfl, wrap_succ (by omega)]
      exact same_l0 l hl n (i + 1) (by omega) (by omega)
    · rw [if_neg (by omega)]
theorem same_calls (A B : Option Addr) (c d : Nat) (l : List Int) (w : World) (h1 : Kd.C (Kd.int .i64) w A l.length l) (h2 : l.length ≤ c) (h3 : Kd.C (Kd.int .i64) w B l.length l) (h4 : l.length ≤ d) : Calls Tryd.prog 19 #[.slice A l.length c, .slice B l.length d] w fun e w' => e = .returned (.bool true) ∧ Drawn0 w w' := by
  have hk : heraldlaw11_sameInts.f (l.length + 1) l l = some true := by
    unfold heraldlaw11_sameInts.f
    rw [if_pos rfl]
    exact same_l0 l h1.2.1 (l.length + 1) 0 (by omega) (by omega)
  exact heraldlaw11_sameInts.calls (l.length + 1) A c l B d l true w h1 h2 h3 h4 hk
theorem first_calls (w : World) (hG : GL w) : Calls Tryd.prog 9 #[] w fun e w' => e = .returned (.bool true) ∧ Below w.heap.size w w' := by
  have HG := Aside0.mk hG
  clear hG
  go_enter Tryd.func9, Tryd.ntmps9
  go_upto_region 4 with (go_at_call 8; refine (new_calls _ true w.heap.size (Nat.le_refl _)).mono ?_; rintro e w1 ⟨p, S1, rfl, hT, hS, hb⟩; have A1 := Aside0.mk hT; have L1 := Aside0.mk hb; clear hT hS hb)
  go_upto_region 5 with (go_at_call 25; refine (next_calls w.heap.size S1 p (Tb.new true) _ A1.out).mono ?_; rintro e w2 ⟨rfl, hb⟩; rw [next0]; have A2 := Aside0.mk (A1.out.low hb); have L2 := Aside0.mk (below_then L1.out L1.out.size hb); clear hb)
  clear A1 L1
  go_upto_region 6 with (go_at_call 11; refine (done_calls w.heap.size S1 p (Tb.new true) false 1 false 2 _ A2.out (HG.out.below L2.out) ⟨by decide, by decide⟩).mono ?_; rintro e w3 ⟨rfl, S3, hT, hF, hS⟩; rw [act1] at hT ⊢; have A3 := Aside0.mk hT; have L3 := Aside0.mk (Fr.below L2.out L2.out.size hF (fun k hk => (A2.out.bd k hk).1)); clear hT hF hS)
  clear A2 L2
  go_upto_region 7 with (go_at_call 11; refine (done_calls w.heap.size S3 p F1 false 2 true 5 _ A3.out (HG.out.below L3.out) ⟨by decide, by decide⟩).mono ?_; rintro e w4 ⟨rfl, S4, hT, hF, hS⟩; rw [act2] at hT ⊢; have A4 := Aside0.mk hT; have L4 := Aside0.mk (Fr.below L3.out L3.out.size hF (fun k hk => (A3.out.bd k hk).1)); clear hT hF hS)
  clear A3 L3
  go_upto_region 8 with (go_at_call 13; refine (state_calls w.heap.size S4 p F2 1 _ A4.out ⟨by decide, by decide⟩).mono ?_; rintro e w5 ⟨rfl, rfl⟩; rw [stt2])
  go_upto_region 9 with (go_at_call 11; refine (done_calls w.heap.size S4 p F2 false 2 false 6 _ A4.out (HG.out.below L4.out) ⟨by decide, by decide⟩).mono ?_; rintro e w5 ⟨rfl, S5, hT, hF, hS⟩; rw [act3] at hT ⊢; have A5 := Aside0.mk hT; have L5 := Aside0.mk (Fr.below L4.out L4.out.size hF (fun k hk => (A4.out.bd k hk).1)); clear hT hF hS)
  clear A4 L4
  go_upto_region 10 with (go_at_call 11; refine (done_calls w.heap.size S5 p F3 false 2 true 1 _ A5.out (HG.out.below L5.out) ⟨by decide, by decide⟩).mono ?_; rintro e w6 ⟨rfl, S6, hT, hF, hS⟩; rw [act4] at hT ⊢; have A6 := Aside0.mk hT; have L6 := Aside0.mk (Fr.below L5.out L5.out.size hF (fun k hk => (A5.out.bd k hk).1)); clear hT hF hS)
  clear A5 L5
  go_upto_region 11 with (go_at_call 11; refine (done_calls w.heap.size S6 p F3 false 3 true 1 _ A6.out (HG.out.below L6.out) ⟨by decide, by decide⟩).mono ?_; rintro e w7 ⟨rfl, S7, hT, hF, hS⟩; rw [act5] at hT ⊢; have A7 := Aside0.mk hT; have L7 := Aside0.mk (Fr.below L6.out L6.out.size hF (fun k hk => (A6.out.bd k hk).1)); clear hT hF hS)
  clear A6 L6
  go_upto_region 12 with (go_at_call 25; refine (next_calls w.heap.size S7 p F3 _ A7.out).mono ?_; rintro e w8 ⟨rfl, hb⟩; rw [next3]; have A8 := Aside0.mk (A7.out.low hb); have L8 := Aside0.mk (below_then L7.out L7.out.size hb); clear hb)
  clear A7 L7
  go_wp2_with fail
  refine Calls.mono (cut_calls w.heap.size S7 p F3 2 _ A8.out ⟨by decide, by decide⟩) ?_
  rintro e w9 ⟨rfl, rfl⟩
  rw [cut2]
  go_wp2_with fail
  refine Calls.mono (cut_calls w.heap.size S7 p F3 1 _ A8.out ⟨by decide, by decide⟩) ?_
  rintro e w9 ⟨rfl, rfl⟩
  rw [cut1]
  go_wp2_with fail
  refine Calls.mono (count_calls w.heap.size S7 p F3 true _ A8.out) ?_
  rintro e w9 ⟨ids, rfl, hc, hb⟩
  obtain rfl := cnt_true hc
  have A9 := Aside0.mk (A8.out.low hb)
  have L9 := Aside0.mk (below_then L8.out L8.out.size hb)
  clear hb hc
  go_wp2_with fail
  refine Calls.mono (count_calls w.heap.size S7 p F3 false _ A9.out) ?_
  rintro e w10 ⟨ids, rfl, hc, hb⟩
  obtain rfl := cnt_false hc
  have AX := Aside0.mk (A9.out.low hb)
  have LX := Aside0.mk (below_then L9.out L9.out.size hb)
  clear hb hc
  go_wp2_with fail
  refine Calls.mono (last_calls w.heap.size S7 p F3 false _ AX.out) ?_
  rintro e w11 ⟨rfl, hb⟩
  rw [last3]
  have AY := Aside0.mk (AX.out.low hb)
  have LY := Aside0.mk (below_then LX.out LX.out.size hb)
  clear hb
  go_wp2_with fail
  refine Calls.mono (live_calls w.heap.size S7 p F3 _ AY.out) ?_
  rintro e w12 ⟨v, ids, rfl, hR, hL, hb⟩
  obtain rfl := live_one hL
  obtain ⟨Al, cl, rfl, hcl, hCl⟩ := R_slice_int hR
  have HCL := Aside0.mk hCl
  have HLL := Aside0.mk hcl
  have LZ := Aside0.mk (below_then LY.out LY.out.size hb)
  clear hb hR hL hCl hcl
  go_wp2_with fail
  refine Calls.mono (same_calls Al (some ⟨w12.heap.size, 0, none⟩) cl 1 [1] _ (Kd.C_below HCL.out (below_alloc (Below.refl _ _) _)) HLL.out (C_one (blk_new _ _)) (Nat.le_refl _)) ?_
  rintro e w13 ⟨rfl, hd⟩
  have LW := Aside0.mk (below_then (below_alloc LZ.out _) (Nat.le_trans LZ.out.size (by rw [World.size_alloc]; omega)) (drawn_below hd))
  clear hd
  go_wp2_with fail
  go_ret
  exact ⟨rfl, LW.out⟩
end Go.Proofs.YtagkncjdohljgaaDoor.St
