/- The laws' first answers hold. The memory is as it was but for what is new. -/
import Derived.Test.YtedkjbdkokdgdaaMFirst
namespace Go.Proofs.Ytedkjbdkokdgdaa.Sh
open Go Go.RowKit Go.Proofs.YtedkjbdkokdgdaaW.PrintWords Go.Proofs.YtedkjbdkokdgdaaW.PrintLast Go.Proofs.YtedkjbdkokdgdaaW.PrintMore Go.Proofs.Ytedkjbdkokdgdaa.QL
set_option linter.unusedSimpArgs false
set_option linter.unusedVariables false
set_option maxHeartbeats 4000000
set_option maxRecDepth 100000
theorem drawn_below {w w' : World} (h : Drawn0 w w') : Below w.heap.size w w' := by
  obtain ⟨n, rfl⟩ := h
  exact pw_below_drewN (Below.refl _ _) n
theorem wrap_succ {i : Nat} (h : i < 9223372036854775807) : wrap64 ((i : Int) + 1) = ((i + 1 : Nat) : Int) := by unfold wrap64; omega
theorem same_l0 (l : List Int) (hl : l.length ≤ 9223372036854775807) : ∀ (n i : Nat), l.length - i < n → i ≤ l.length → heraldlaw20_same.l0 n l l (i : Int) = some true
  | 0, i, h, _ => by omega
  | n + 1, i, h, hi => by
    unfold heraldlaw20_same.l0
    by_cases hx : i < l.length
    · rw [if_pos (by omega), if_pos (by omega), if_pos (by omega), if_pos rfl, wrap_succ (by omega)]
      exact same_l0 l hl n (i + 1) (by omega) (by omega)
    · rw [if_neg (by omega)]
theorem same_calls (A B : Option Addr) (c d : Nat) (l : List Int) (w : World) (h1 : Kd.C (Kd.int .i64) w A l.length l) (h2 : l.length ≤ c) (h3 : Kd.C (Kd.int .i64) w B l.length l) (h4 : l.length ≤ d) : Calls Try.prog 11 #[.slice A l.length c, .slice B l.length d] w fun e w' => e = .returned (.bool true) ∧ Below w.heap.size w w' := by
  have hk : heraldlaw20_same.f (l.length + 1) l l = some true := by
    unfold heraldlaw20_same.f
    rw [if_pos rfl]
    exact same_l0 l h1.2.1 (l.length + 1) 0 (by omega) (by omega)
  exact (heraldlaw20_same.calls (l.length + 1) A c l B d l true w h1 h2 h3 h4 hk).mono fun e w' h => ⟨h.1, drawn_below h.2⟩
theorem has_l0 (l : List Int) (x : Int) (hl : l.length ≤ 9223372036854775807) : ∀ (n i : Nat), l.length - i < n → i ≤ l.length → heraldlaw20_has.l0 n l x (i : Int) = some (decide (x ∈ l.drop i))
  | 0, i, h, _ => by omega
  | n + 1, i, h, hi => by
    unfold heraldlaw20_has.l0
    by_cases hx : i < l.length
    · have e : l.drop i = l[i] :: l.drop (i + 1) := List.drop_eq_getElem_cons hx
      have e2 : rd l (i : Int) = l[i] := by
        unfold rd
        rw [Int.toNat_natCast, List.getD_eq_getElem?_getD, List.getElem?_eq_getElem hx]
        rfl
      rw [if_pos (by omega), if_pos (by omega), e2, e]
      by_cases h2 : l[i] = x
      · rw [if_pos h2, h2]
        simp
      · rw [if_neg h2, wrap_succ (by omega), has_l0 l x hl n (i + 1) (by omega) (by omega)]
        have hne : ¬ x = l[i] := fun e => h2 e.symm
        simp only [List.mem_cons, hne, false_or]
    · rw [if_neg (by omega), List.drop_of_length_le (by omega)]
      simp
theorem has_calls (A : Option Addr) (c : Nat) (l : List Int) (x : Int) (w : World) (h1 : Kd.C (Kd.int .i64) w A l.length l) (h2 : l.length ≤ c) : Calls Try.prog 17 #[.slice A l.length c, .int .i64 x] w fun e w' => e = .returned (.bool (decide (x ∈ l))) ∧ Below w.heap.size w w' := by
  have hk : heraldlaw20_has.f (l.length + 1) l x = some (decide (x ∈ l)) := has_l0 l x h1.2.1 (l.length + 1) 0 (by omega) (by omega)
  exact (heraldlaw20_has.calls (l.length + 1) A c l x _ w h1 h2 hk).mono fun e w' h => ⟨h.1, drawn_below h.2⟩
theorem pick_calls (A : Option Addr) (c : Nat) (l : List Int) (n : Int) (r : Int × Bool) (w : World) (h1 : Kd.C (Kd.int .i64) w A l.length l) (h2 : l.length ≤ c) (h : share_Pick.f l n = some r) : Calls Try.prog 8 #[.slice A l.length c, .int .i64 n] w fun e w' => e = .returned (.tuple #[.int .i64 r.1, .bool r.2]) ∧ Below w.heap.size w w' :=
  (share_Pick.calls A c l n r.1 r.2 w h1 h2 h).mono fun e w' h => ⟨h.1, drawn_below h.2⟩
/-- A row of the call's own as a slice that can be read. -/
theorem R_slice_int {W : World} {base : Nat} {ok : Nat → Prop} {v : Value} {l : List Int} (h : Kd.R (Kd.int .i64) 2 W base ok v l) : ∃ A c, v = .slice A l.length c ∧ l.length ≤ c ∧ Kd.C (Kd.int .i64) W A l.length l := Kd.R_reads h
theorem R_slice_int2 {W : World} {base : Nat} {ok : Nat → Prop} {A : Option Addr} {c : Nat} {l : List Int} (h : Kd.R (Kd.int .i64) 2 W base ok (.slice A l.length c) l) : Kd.C (Kd.int .i64) W A l.length l := by
  obtain ⟨A', c', e, _, h2⟩ := Kd.R_reads h
  injection e with e1 _ _
  subst e1
  exact h2
theorem pick_first : share_Pick.f [5, 7, 9] (-1) = some (9, true) := by decide +kernel
theorem R_above {W W' : World} {base b : Nat} {ok : Nat → Prop} {v : Value} {l : List Int} (h : Kd.R (Kd.int .i64) 2 W base ok v l) (hb : b < base) (hg : W.grownBy W' (some b)) : Kd.R (Kd.int .i64) 2 W' base ok v l :=
  Kd.R_mono (Kd.R_grown (Kd.R_bound h) hg (fun k hk e => by have := Option.some.inj e; have := hk.2.1; omega)) (fun _ hk => hk.1)
theorem first_calls (w : World) : Calls Try.prog 10 #[] w fun e w' => e = .returned (.bool true) ∧ Below w.heap.size w w' := by
  have HB := Aside0.mk (Below.refl w.heap.size w)
  have HP1 : Aside0 (putF m0 1 ⟨#[104, 101, 108, 108, 111]⟩ false = (0, m1)) := ⟨put1⟩
  have HP2 : Aside0 (putF m1 3 ⟨#[]⟩ true = (0, m2)) := ⟨put2⟩
  have hnil : ((⟨#[]⟩ : ByteArray).size : Int) = 0 := rfl
  go_enter Try.func10, Try.ntmps10
  go_upto_region 4 with (go_at_call 12; refine (new_calls _).mono ?_; rintro e w1 ⟨p, mb, rfl, hS, hp, hm, hb⟩; have S1 := Aside0.mk hS; have L1 := Aside0.mk hb; have HP := Aside0.mk hp; have HM := Aside0.mk hm; clear hS hp hm hb)
  go_upto_region 5 with (go_at_call 15; refine (put_calls p mb 0 m0 1 ⟨#[104, 101, 108, 108, 111]⟩ false _ S1.out (by decide) (by decide)).mono ?_; rintro e w2 ⟨rfl, hS, hg⟩; rw [HP1.out] at hS ⊢; have S2 := Aside0.mk hS; have L2 := Aside0.mk (grown_below L1.out hg HM.out L1.out.size); clear hS hg)
  clear S1 L1
  go_upto_region 6 with (go_at_call 15; refine (put_calls p mb 1 m1 3 ⟨#[]⟩ true _ S2.out (by decide) (by decide)).mono ?_; rintro e w3 ⟨rfl, hS, hg⟩; rw [HP2.out] at hS ⊢; have S3 := Aside0.mk hS; have L3 := Aside0.mk (grown_below L2.out hg HM.out L2.out.size); clear hS hg)
  clear S2 L2
  go_upto_region 7 with (go_at_call 18; refine (ready_calls p mb 2 m2 9 (some ⟨_, 0, none⟩) 2 [⟨1, 2⟩, ⟨1, 0⟩] _ (S3.out.low (below_alloc (Below.refl _ _) _)) (by decide) (by decide) (C_50_two (blk_new _ _))).mono ?_; rintro e w4 hR; obtain ⟨v, ids, rfl, hR, hids, hb⟩ := hR; have S4 := Aside0.mk ((S3.out.low (below_alloc (Below.refl _ _) _)).low hb); have L4 := Aside0.mk (below_then (below_alloc L3.out _) (Nat.le_trans L3.out.size (by rw [World.size_alloc]; omega)) hb); have R4 := Aside0.mk (Kd.R_lower hR (base' := mb + 1) (by have := S3.out.mq.lt; rw [World.size_alloc]; omega)); have HI := Aside0.mk hids; clear hR hids hb)
  clear S3 L3
  obtain rfl := HI.out.uniq first_rdy
  obtain ⟨A4, c4, rfl, hc4, hC4⟩ := R_slice_int R4.out
  have HC4 : Aside0 ([1, 3].length ≤ c4) := ⟨hc4⟩
  clear hc4 hC4 HI
  obtain ⟨N, hN⟩ : ∃ N, nextF m2 1 9 2 100 = N := ⟨_, rfl⟩
  have HN1 : Aside0 (N.1 = ⟨⟨#[104, 101]⟩, false, 0⟩) := ⟨by rw [← hN]; exact first_next⟩
  have HN2 : Aside0 (N.2 3 = ⟨ByteArray.empty, true, true⟩) := ⟨by rw [← hN]; exact first_wait⟩
  have HN := Aside0.mk hN
  clear hN
  go_upto_region 8 with (go_at_call 16; refine (next_calls p mb 2 m2 1 9 2 100 _ S4.out ⟨by omega, by omega⟩ (by decide) (by decide)).mono ?_; rintro e w5 ⟨rfl, hS, hg⟩; rw [HN.out] at hS ⊢; rw [HN1.out]; have S5 := Aside0.mk hS; have L5 := Aside0.mk (grown_below L4.out hg HM.out L4.out.size); have R5 := Aside0.mk (R_above R4.out (Nat.lt_succ_self _) hg); clear hS hg)
  clear S4 L4 R4
  go_upto_region 9 with (go_at_call 19; refine (waits_calls p mb 3 N.2 3 _ S5.out ⟨by omega, by omega⟩).mono ?_; rintro e w6 ⟨rfl, hb⟩; rw [HN2.out]; have R6 := Aside0.mk (Kd.R_below R5.out hb); have L6 := Aside0.mk (below_then L5.out L5.out.size hb); clear hb)
  clear S5 L5 R5
  go_upto_region 10 with (go_at_call 8; refine (pick_calls (some ⟨_, 0, none⟩) 3 [5, 7, 9] (-1) (9, true) _ (C_int_blk (blk_new _ _) rfl (by decide)) (by decide) pick_first).mono ?_; rintro e w7 ⟨rfl, hb⟩; have R7 := Aside0.mk (Kd.R_below (Kd.R_below R6.out (below_alloc (Below.refl _ _) _)) hb); have L7 := Aside0.mk (below_then (below_alloc L6.out _) (Nat.le_trans L6.out.size (by rw [World.size_alloc]; omega)) hb); clear hb)
  clear L6 R6
  go_wp2_with (go_at_call 11; refine (same_calls A4 (some ⟨_, 0, none⟩) c4 2 [1, 3] _ (Kd.C_below (R_slice_int2 R7.out) (below_alloc (Below.refl _ _) _)) HC4.out (C_int_blk (blk_new _ _) rfl (by decide)) (by decide)).mono ?_; rintro e w8 ⟨rfl, hb⟩; have L8 := Aside0.mk (below_then (below_alloc L7.out _) (Nat.le_trans L7.out.size (by rw [World.size_alloc]; omega)) hb); clear hb)
  go_ret
  exact ⟨rfl, L8.out⟩
end Go.Proofs.Ytedkjbdkokdgdaa.Sh
