/- Written by a program of this session (a changed run of the kit's printer): what the Go functions of one call tree answer, as plain functions, and that the machine's calls answer so; no condition but those in each statement. -/
import Derived.Test.YtbngliommdmnkaaQWindowSumsx0
namespace Go.Proofs.Ytbngliommdmnkaa.QWindowSums
open Go.RowKit Go.Proofs.YtbngliommdmnkaaW.PrintWords Go.Proofs.YtbngliommdmnkaaW.PrintLast Go.Proofs.YtbngliommdmnkaaW.PrintMore
attribute [local go_sem] max2_int min2_int max_two min_two max_three min_three max_four min_four   -- for this text's walks alone
set_option linter.unusedVariables false
set_option linter.unusedSimpArgs false

/-- A state of type 42 at block g of W; what its slices lead to came in by w0. -/
def IsS42 (w0 W : World) (g : Nat) (f0 : Int) : Prop := W.heap[g]? = some (.cells #[.int .i64 f0] 42 (0, 0)) ∧ w0.heap.size ≤ g
theorem IsS42.grown {w0 W : World} {g : Nat} {f0 : Int} {W1 : World} {row : Option Nat} (h : IsS42 w0 W g f0) (hw : W.grownBy W1 row) (hne : some g ≠ row) : IsS42 w0 W1 g f0 := by
  obtain ⟨hb, hg⟩ := h
  exact ⟨blk_grown hb hw hne, hg⟩
theorem IsS42.own_neN {w0 W : World} {g : Nat} {f0 : Int} {α : Type} {d : Kd α} {e : Nat} {base : Nat} {ok : Nat → Prop} {v : Value} {xs : List α} (h : IsS42 w0 W g f0) (ho : Kd.N d e W base ok v xs) (ht : e ≠ 42) : some g ≠ v.ownBlock := by
  obtain ⟨hb, hg⟩ := h
  exact Kd.N_ne ho hb ht
theorem IsS42.fresh {w0 W : World} {g : Nat} {f0 : Int} (h : IsS42 w0 W g f0) : ∀ k, W.heap.size ≤ k → k ≠ g := by
  obtain ⟨hb, hg⟩ := h
  exact Kd.freshB hb
theorem IsS42.kept {w0 W : World} {g : Nat} {f0 : Int} {W1 : World} {S : Nat → Prop} (h : IsS42 w0 W g f0) (hk : Kept W W1 S) (hne : ¬ S g) : IsS42 w0 W1 g f0 := by
  obtain ⟨hb, hg⟩ := h
  exact ⟨blk_kept hb hk hne, hg⟩
theorem IsS42.below {w0 W : World} {g : Nat} {f0 : Int} {W1 : World} (h : IsS42 w0 W g f0) (hw : Below W.heap.size W W1) : IsS42 w0 W1 g f0 := h.grown (grown_of_below hw none) (by simp)
theorem IsS42.alloc {w0 W : World} {g : Nat} {f0 : Int} (h : IsS42 w0 W g f0) (o : Obj) : IsS42 w0 (W.alloc o) g f0 := h.below (below_alloc (Below.refl _ _) o)
theorem IsS42.drewN {w0 W : World} {g : Nat} {f0 : Int} (h : IsS42 w0 W g f0) (m : Nat) : IsS42 w0 (W.drewN m) g f0 := h
theorem IsS42.drew {w0 W : World} {g : Nat} {f0 : Int} (h : IsS42 w0 W g f0) : IsS42 w0 W.drew g f0 := h
theorem IsS42.at_ {w0 W : World} {g : Nat} {f0 : Int} {w' : World} {m : Nat} (hq : W.drewN m = w') (h : IsS42 w0 W g f0) : IsS42 w0 w' g f0 := by subst hq; exact IsS42.drewN h m
theorem IsS42.apart {w0 W : World} {g : Nat} {f0 : Int} {α : Type} {d : Kd α} {e : Nat} {base : Nat} {ok : Nat → Prop} {v : Value} {xs : List α} (h : IsS42 w0 W g f0) (ho : d.R e W base ok v xs) (ht : ∀ q, q ∈ e :: d.E → q ≠ 42) : d.R e W base (fun k => ok k ∧ k ≠ g) v xs := by
  obtain ⟨hb, hg⟩ := h
  exact Kd.R_types ho hb ht
theorem IsS42.own_ne {w0 W : World} {g : Nat} {f0 : Int} {α : Type} {d : Kd α} {e : Nat} {base : Nat} {ok : Nat → Prop} {v : Value} {xs : List α} (h : IsS42 w0 W g f0) (ho : d.R e W base ok v xs) (ht : e ≠ 42) : some g ≠ v.ownBlock := by
  obtain ⟨hb, hg⟩ := h
  exact Kd.R_ne ho hb ht
theorem IsS42.apartQ {w0 W : World} {g : Nat} {f0 : Int} {α : Type} {d : Kd α} {e : Nat} {base : Nat} {ok : Nat → Prop} {v : Value} {xs : List α} (h : IsS42 w0 W g f0) (ho : d.Q e W base ok v xs) (ht : ∀ q, q ∈ e :: d.E → q ≠ 42) : d.Q e W base (fun k => ok k ∧ k ≠ g) v xs := by
  obtain ⟨hb, hg⟩ := h
  exact Kd.Q_types ho hb ht
theorem IsS42.own_neQ {w0 W : World} {g : Nat} {f0 : Int} {α : Type} {d : Kd α} {e : Nat} {base : Nat} {ok : Nat → Prop} {v : Value} {xs : List α} (h : IsS42 w0 W g f0) (ho : d.Q e W base ok v xs) (ht : e ≠ 42) : some g ≠ v.ownBlock := by
  obtain ⟨hb, hg⟩ := h
  exact Kd.Q_ne ho hb ht
theorem IsS42.apartS {w0 W : World} {g : Nat} {f0 : Int} {α : Type} {d : Kd α} {e : Nat} {base : Nat} {ok : Nat → Prop} {v : Value} {xs : List α} (h : IsS42 w0 W g f0) (ho : d.S e W base ok v xs) (ht : ∀ q, q ∈ e :: d.E → q ≠ 42) : d.S e W base (fun k => ok k ∧ k ≠ g) v xs := by
  obtain ⟨hb, hg⟩ := h
  exact Kd.S_types ho hb ht
theorem IsS42.own_neS {w0 W : World} {g : Nat} {f0 : Int} {α : Type} {d : Kd α} {e : Nat} {base : Nat} {ok : Nat → Prop} {v : Value} {xs : List α} (h : IsS42 w0 W g f0) (ho : d.S e W base ok v xs) (ht : e ≠ 42) : some g ≠ v.ownBlock := by
  obtain ⟨hb, hg⟩ := h
  exact Kd.S_ne ho hb ht
theorem IsS42.lt {w0 W : World} {g : Nat} {f0 : Int} (h : IsS42 w0 W g f0) : g < W.heap.size := by
  obtain ⟨hb, hg⟩ := h
  exact blk_lt hb
theorem IsS42.ge {w0 W : World} {g : Nat} {f0 : Int} (h : IsS42 w0 W g f0) : w0.heap.size ≤ g := by
  obtain ⟨hb, hg⟩ := h
  exact hg
theorem IsS42.ne_blk {w0 W : World} {g : Nat} {f0 : Int} {a : Nat} {cs : Array Value} {t : TypeId} {fr : Nat × Nat} (h : IsS42 w0 W g f0) (hb2 : W.heap[a]? = some (.cells cs t fr)) (ht : t ≠ 42) : g ≠ a := by
  obtain ⟨hb, hg⟩ := h
  rintro rfl
  rw [hb] at hb2
  injection hb2 with hb2
  injection hb2 with _ ht2
  exact ht ht2.symm
theorem IsS42.far {w0 W : World} {g : Nat} {f0 : Int} {p : Addr} (h : IsS42 w0 W g f0) (hne : g ≠ p.block) (u : Value) : IsS42 w0 (W.setCell p u) g f0 := by
  obtain ⟨hb, hg⟩ := h
  exact ⟨blk_far hb hne u, hg⟩
theorem cellS42_0 {W : World} {g : Nat} {f0 : Int} (h : W.heap[g]? = some (.cells #[.int .i64 f0] 42 (0, 0))) : W.cell? ⟨g, 0, none⟩ = some (.int .i64 f0) := (blk_cell h 0).trans rfl
theorem IsS42.set_0 {w0 W : World} {g : Nat} {f0 : Int} (h : IsS42 w0 W g f0) (x : Int) : IsS42 w0 (W.setCell ⟨g, 0, none⟩ (.int .i64 x)) g x := by
  obtain ⟨hb, hg⟩ := h
  exact ⟨by simpa using blk_set hb 0 (.int .i64 x), hg⟩
theorem IsS42.new (w0 W : World) (f0 : Int) (hB : Below w0.heap.size w0 W) : IsS42 w0 (W.alloc (.cells #[.int .i64 f0] 42)) W.heap.size f0 := ⟨by simpa using heap_alloc_new W _, hB.size⟩

/-! ### window_New: function 9 -/
def window_New.f (a0 : Int) : Option (Int) := some (mn (mx a0 0) 2147483647)
set_option maxHeartbeats 8000000 in
set_option maxRecDepth 100000 in
theorem window_New.calls (a0 : Int) (r : Int) (w0 w : World) (hB : Below w0.heap.size w0 w) (h : window_New.f a0 = some r) :
    Calls Try.prog 9 #[.int .i64 a0] w fun e w' => ∃ g_ : Nat, e = .returned (.pointer (some ⟨g_, 0, none⟩)) ∧ IsS42 w0 w' g_ r ∧ Below w0.heap.size w0 w' ∧ Below w.heap.size w w' := by
  have hu42 := Try.underlying42
  have HBW := Aside0.mk (Below.refl w.heap.size w)
  have HW0 := Aside0.mk hB.size
  have HB := Aside0.mk hB
  clear hB
  have H : (some (mn (mx a0 0) 2147483647)) = some r := h
  clear h
  obtain ⟨ji2, hji2⟩ : ∃ j_ : Int, (mx a0 0) = j_ := ⟨_, rfl⟩
  replace H : (some (mn (ji2) 2147483647)) = some r := by first | (rw [hji2] at H; exact H) | (simp only [hji2] at H ⊢; exact H)
  (try (have hji2l : 0 ≤ ji2 := by (rw [← hji2]; unfold mx; (repeat' split) <;> omega)))
  (try (have hji2m : 0 ≤ ji2 := by omega))
  have hji2_ : (if a0 < 0 then 0 else a0) = ji2 := hji2
  obtain ⟨ji3, hji3⟩ : ∃ j_ : Int, (mn (ji2) 2147483647) = j_ := ⟨_, rfl⟩
  replace H : (some ji3) = some r := by first | (rw [hji3] at H; exact H) | (simp only [hji3] at H ⊢; exact H)
  have hji3_ : (if 2147483647 < (ji2) then 2147483647 else (ji2)) = ji3 := hji3
  obtain rfl := Option.some.inj H
  go_enter Try.func9, Try.ntmps9
  go_wp2_with (first | ((with_reducible refine gate_dst (N := 7) rfl ?_); refine box_event ?hg (N := 7) ?hd (cs := #[.int .i64 ji3]) (t := 42) ?hr ?_; (case hd => rfl); (case hg => rfl); (case hr => first | (go_simp; done) | (go_simp; rfl)); intro gb101 hg w4 hbox hb; have n0_ := Aside0.mk (below_step HBW.out hb); have n1_ := Aside0.mk (below_step (by repeat (first | (with_reducible first | exact HB.out | apply below_alloc | apply pw_below_drewN | apply below_drew1) | exact HB.out)) hb); have n2_ := Aside0.mk (hbox); have n3_ := Aside0.mk ((by rw [hg]; exact (below_size (by repeat (first | (with_reducible first | exact HBW.out | apply below_alloc | apply pw_below_drewN | apply below_drew1) | exact HBW.out))) : w.heap.size ≤ gb101)); have n4_ := Aside0.mk ((Nat.le_trans HW0.out (by rw [hg]; exact (below_size (by repeat (first | (with_reducible first | exact HBW.out | apply below_alloc | apply pw_below_drewN | apply below_drew1) | exact HBW.out))) : w.heap.size ≤ gb101) : w0.heap.size ≤ gb101)); clear HBW; clear HB; have HBW := n0_; have HB := n1_; have BK101 := n2_; have GW101 := n3_; have GE101 := n4_; clear n0_ n1_ n2_ n3_ n4_; clear hb hbox hg))
  go_ret
  exact ⟨_, rfl, (show IsS42 w0 _ gb101 ji3 from ⟨by (with_reducible repeat (first | refine blk_drewN ?_ _ | refine blk_drew ?_ | refine blk_alloc ?_ _)); exact BK101.out, GE101.out⟩), by repeat (first | (with_reducible first | exact HB.out | apply below_alloc | apply pw_below_drewN | apply below_drew1 | refine below_set ?_ GE101.out) | exact HB.out), by repeat (first | (with_reducible first | exact HBW.out | apply below_alloc | apply pw_below_drewN | apply below_drew1 | refine below_set ?_ GW101.out) | exact HBW.out)⟩

/-! ### window_Window_Left: function 12 -/
def window_Window_Left.f (s0_0 : Int) : Option (Int × Int) := some (s0_0, s0_0)
set_option maxHeartbeats 8000000 in
set_option maxRecDepth 100000 in
theorem window_Window_Left.calls (g : Nat) (s0_0 : Int) (r1 : Int) (r2 : Int) (w0 w : World) (hI : IsS42 w0 w g s0_0) (hB : Below w0.heap.size w0 w) (h : window_Window_Left.f s0_0 = some (r1, r2)) :
    Calls Try.prog 12 #[.pointer (some ⟨g, 0, none⟩)] w fun e w' => e = .returned (.int .i64 r1) ∧ IsS42 w0 w' g r2 ∧ Below w0.heap.size w0 w' ∧ KeepBut w w' g none := by
  have HI0 := Aside0.mk hI
  have HK := Aside0.mk (KeepBut.refl w g none)
  have HL := Aside0.mk hB.size
  clear hI
  have HW0 := Aside0.mk hB.size
  have HB := Aside0.mk hB
  clear hB
  have H : (some (s0_0, s0_0)) = some (r1, r2) := h
  clear h
  simp only [Option.some.injEq, Prod.mk.injEq] at H
  obtain ⟨rfl, rfl⟩ := H
  obtain ⟨HGz2, hgz2⟩ := HI0.out
  have hcz2_0 := cellS42_0 HGz2
  have hfz2_0 := blk_frozen HGz2 0
  clear HGz2 hgz2
  go_enter Try.func12, Try.ntmps12
  go_wp2
  go_ret
  exact ⟨by first | rfl | (simp [errW_none, errW_some] <;> rfl) | (simp [*, errW_none, errW_some] <;> rfl), by repeat (first | (with_reducible first | exact HI0.out | apply IsS42.alloc | apply IsS42.drewN | apply IsS42.drew | apply IsS42.set_0) | exact HI0.out), by repeat (first | (with_reducible first | exact HB.out | apply below_alloc | apply pw_below_drewN | apply below_drew1 | refine below_set ?_ (IsS42.ge HI0.out)) | exact HB.out), by repeat (first | (with_reducible first | exact HK.out | apply KeepBut.set_ | apply keep_drewN | apply keep_drew | apply keep_alloc) | exact HK.out)⟩

/-! ### window_Room: function 14 -/
def window_Room.f (a0 : Int) (a1 : Int) (a2 : Int) (a3 : Int) : Option (Int) := some (mx 0 (mn (mn (mn a0 a1) a2) a3))
set_option maxHeartbeats 8000000 in
set_option maxRecDepth 100000 in
theorem window_Room.calls (a0 : Int) (a1 : Int) (a2 : Int) (a3 : Int) (r : Int) (w : World) (h : window_Room.f a0 a1 a2 a3 = some r) :
    Calls Try.prog 14 #[.int .i64 a0, .int .i64 a1, .int .i64 a2, .int .i64 a3] w fun e w' => e = .returned (.int .i64 r) ∧ Below w.heap.size w w' := by
  have HB := Aside0.mk (Below.refl w.heap.size w)
  have H : (some (mx 0 (mn (mn (mn a0 a1) a2) a3))) = some r := h
  clear h
  obtain ⟨ji5, hji5⟩ : ∃ j_ : Int, (mn a0 a1) = j_ := ⟨_, rfl⟩
  replace H : (some (mx 0 (mn (mn (ji5) a2) a3))) = some r := by first | (rw [hji5] at H; exact H) | (simp only [hji5] at H ⊢; exact H)
  have hji5_ : (if a1 < a0 then a1 else a0) = ji5 := hji5
  obtain ⟨ji6, hji6⟩ : ∃ j_ : Int, (mn (ji5) a2) = j_ := ⟨_, rfl⟩
  replace H : (some (mx 0 (mn (ji6) a3))) = some r := by first | (rw [hji6] at H; exact H) | (simp only [hji6] at H ⊢; exact H)
  have hji6_ : (if a2 < (ji5) then a2 else (ji5)) = ji6 := hji6
  obtain ⟨ji7, hji7⟩ : ∃ j_ : Int, (mn (ji6) a3) = j_ := ⟨_, rfl⟩
  replace H : (some (mx 0 (ji7))) = some r := by first | (rw [hji7] at H; exact H) | (simp only [hji7] at H ⊢; exact H)
  have hji7_ : (if a3 < (ji6) then a3 else (ji6)) = ji7 := hji7
  obtain ⟨ji8, hji8⟩ : ∃ j_ : Int, (mx 0 (ji7)) = j_ := ⟨_, rfl⟩
  replace H : (some ji8) = some r := by first | (rw [hji8] at H; exact H) | (simp only [hji8] at H ⊢; exact H)
  have hji8_ : (if 0 < (ji7) then (ji7) else 0) = ji8 := hji8
  obtain rfl := Option.some.inj H
  go_enter Try.func14, Try.ntmps14
  go_wp2
  go_ret
  exact ⟨by first | rfl | (simp [errW_none, errW_some] <;> rfl) | (simp only [← hji5, ← hji6, ← hji7, ← hji8]; first | rfl | (simp [errW_none, errW_some] <;> rfl)) | (simp [*, errW_none, errW_some] <;> rfl), by repeat (first | (with_reducible first | exact HB.out | apply below_alloc | apply pw_below_drewN | apply below_drew1) | exact HB.out)⟩

/-! ### window_Window_Take: function 16 -/
def window_Window_Take.f (s0_0 : Int) (a1 : Int) : Option (Bool × Int) := if a1 < 0 then (some (false, s0_0)) else (if a1 > 0 then (if a1 > s0_0 then (some (false, s0_0)) else (some (true, wrap64 (s0_0 - a1)))) else (some (true, wrap64 (s0_0 - a1))))
set_option maxHeartbeats 8000000 in
set_option maxRecDepth 100000 in
theorem window_Window_Take.calls (g : Nat) (s0_0 : Int) (a1 : Int) (r1 : Bool) (r2 : Int) (w0 w : World) (hI : IsS42 w0 w g s0_0) (hB : Below w0.heap.size w0 w) (h : window_Window_Take.f s0_0 a1 = some (r1, r2)) :
    Calls Try.prog 16 #[.pointer (some ⟨g, 0, none⟩), .int .i64 a1] w fun e w' => e = .returned (.bool r1) ∧ IsS42 w0 w' g r2 ∧ Below w0.heap.size w0 w' ∧ KeepBut w w' g none := by
  have HI0 := Aside0.mk hI
  have HK := Aside0.mk (KeepBut.refl w g none)
  have HL := Aside0.mk hB.size
  clear hI
  have HW0 := Aside0.mk hB.size
  have HB := Aside0.mk hB
  clear hB
  have H : (if a1 < 0 then (some (false, s0_0)) else (if a1 > 0 then (if a1 > s0_0 then (some (false, s0_0)) else (some (true, wrap64 (s0_0 - a1)))) else (some (true, wrap64 (s0_0 - a1))))) = some (r1, r2) := h
  clear h
  by_cases c3 : a1 < 0
  · rw [if_pos c3] at H
    have c3b0 : decide (a1 < 0) = true := decide_eq_true c3
    clear c3
    simp only [Option.some.injEq, Prod.mk.injEq] at H
    obtain ⟨rfl, rfl⟩ := H
    go_enter Try.func16, Try.ntmps16
    go_wp2
    go_ret
    exact ⟨by first | rfl | (simp [errW_none, errW_some] <;> rfl) | (simp [*, errW_none, errW_some] <;> rfl), by repeat (first | (with_reducible first | exact HI0.out | apply IsS42.alloc | apply IsS42.drewN | apply IsS42.drew | apply IsS42.set_0) | exact HI0.out), by repeat (first | (with_reducible first | exact HB.out | apply below_alloc | apply pw_below_drewN | apply below_drew1 | refine below_set ?_ (IsS42.ge HI0.out)) | exact HB.out), by repeat (first | (with_reducible first | exact HK.out | apply KeepBut.set_ | apply keep_drewN | apply keep_drew | apply keep_alloc) | exact HK.out)⟩
  · rw [if_neg c3] at H
    have c3b0 : decide (a1 < 0) = false := decide_eq_false c3
    clear c3
    by_cases c4 : a1 > 0
    · rw [if_pos c4] at H
      have c4b0 : decide (0 < a1) = true := decide_eq_true c4
      clear c4
      by_cases c5 : a1 > s0_0
      · rw [if_pos c5] at H
        have c5b0 : decide (s0_0 < a1) = true := decide_eq_true c5
        clear c5
        simp only [Option.some.injEq, Prod.mk.injEq] at H
        obtain ⟨rfl, rfl⟩ := H
        obtain ⟨HGz6, hgz6⟩ := HI0.out
        have hcz6_0 := cellS42_0 HGz6
        have hfz6_0 := blk_frozen HGz6 0
        clear HGz6 hgz6
        go_enter Try.func16, Try.ntmps16
        go_wp2
        go_ret
        exact ⟨by first | rfl | (simp [errW_none, errW_some] <;> rfl) | (simp [*, errW_none, errW_some] <;> rfl), by repeat (first | (with_reducible first | exact HI0.out | apply IsS42.alloc | apply IsS42.drewN | apply IsS42.drew | apply IsS42.set_0) | exact HI0.out), by repeat (first | (with_reducible first | exact HB.out | apply below_alloc | apply pw_below_drewN | apply below_drew1 | refine below_set ?_ (IsS42.ge HI0.out)) | exact HB.out), by repeat (first | (with_reducible first | exact HK.out | apply KeepBut.set_ | apply keep_drewN | apply keep_drew | apply keep_alloc) | exact HK.out)⟩
      · rw [if_neg c5] at H
        have c5b0 : decide (s0_0 < a1) = false := decide_eq_false c5
        clear c5
        simp only [Option.some.injEq, Prod.mk.injEq] at H
        obtain ⟨rfl, rfl⟩ := H
        obtain ⟨HGz7, hgz7⟩ := HI0.out
        have hcz7_0 := cellS42_0 HGz7
        have hfz7_0 := blk_frozen HGz7 0
        clear HGz7 hgz7
        go_enter Try.func16, Try.ntmps16
        go_wp2
        go_ret
        exact ⟨by first | rfl | (simp [errW_none, errW_some] <;> rfl) | (simp [*, errW_none, errW_some] <;> rfl), by repeat (first | (with_reducible first | exact HI0.out | apply IsS42.alloc | apply IsS42.drewN | apply IsS42.drew | apply IsS42.set_0) | exact HI0.out), by repeat (first | (with_reducible first | exact HB.out | apply below_alloc | apply pw_below_drewN | apply below_drew1 | refine below_set ?_ (IsS42.ge HI0.out)) | exact HB.out), by repeat (first | (with_reducible first | exact HK.out | apply KeepBut.set_ | apply keep_drewN | apply keep_drew | apply keep_alloc) | exact HK.out)⟩
    · rw [if_neg c4] at H
      have c4b0 : decide (0 < a1) = false := decide_eq_false c4
      clear c4
      simp only [Option.some.injEq, Prod.mk.injEq] at H
      obtain ⟨rfl, rfl⟩ := H
      obtain ⟨HGz8, hgz8⟩ := HI0.out
      have hcz8_0 := cellS42_0 HGz8
      have hfz8_0 := blk_frozen HGz8 0
      clear HGz8 hgz8
      go_enter Try.func16, Try.ntmps16
      go_wp2
      go_ret
      exact ⟨by first | rfl | (simp [errW_none, errW_some] <;> rfl) | (simp [*, errW_none, errW_some] <;> rfl), by repeat (first | (with_reducible first | exact HI0.out | apply IsS42.alloc | apply IsS42.drewN | apply IsS42.drew | apply IsS42.set_0) | exact HI0.out), by repeat (first | (with_reducible first | exact HB.out | apply below_alloc | apply pw_below_drewN | apply below_drew1 | refine below_set ?_ (IsS42.ge HI0.out)) | exact HB.out), by repeat (first | (with_reducible first | exact HK.out | apply KeepBut.set_ | apply keep_drewN | apply keep_drew | apply keep_alloc) | exact HK.out)⟩

/-! ### window_Window_Shift: function 18 -/
def window_Window_Shift.f (s0_0 : Int) (a1 : Int) : Option (Int × Int) := if a1 > (wrap64 (2147483647 - s0_0)) then (some (3, s0_0)) else (if a1 < (wrap64 ((-2147483647) - s0_0)) then (some (3, s0_0)) else (some (0, wrap64 (s0_0 + a1))))
set_option maxHeartbeats 8000000 in
set_option maxRecDepth 100000 in
theorem window_Window_Shift.calls (g : Nat) (s0_0 : Int) (a1 : Int) (r1 : Int) (r2 : Int) (w0 w : World) (hI : IsS42 w0 w g s0_0) (hB : Below w0.heap.size w0 w) (h : window_Window_Shift.f s0_0 a1 = some (r1, r2)) :
    Calls Try.prog 18 #[.pointer (some ⟨g, 0, none⟩), .int .i64 a1] w fun e w' => e = .returned (.int .i64 r1) ∧ IsS42 w0 w' g r2 ∧ Below w0.heap.size w0 w' ∧ KeepBut w w' g none := by
  have HI0 := Aside0.mk hI
  have HK := Aside0.mk (KeepBut.refl w g none)
  have HL := Aside0.mk hB.size
  clear hI
  have HW0 := Aside0.mk hB.size
  have HB := Aside0.mk hB
  clear hB
  have H : (if a1 > (wrap64 (2147483647 - s0_0)) then (some (3, s0_0)) else (if a1 < (wrap64 ((-2147483647) - s0_0)) then (some (3, s0_0)) else (some (0, wrap64 (s0_0 + a1))))) = some (r1, r2) := h
  clear h
  by_cases c3 : a1 > (wrap64 (2147483647 - s0_0))
  · rw [if_pos c3] at H
    have c3b0 : decide ((wrap64 (2147483647 - s0_0)) < a1) = true := decide_eq_true c3
    clear c3
    simp only [Option.some.injEq, Prod.mk.injEq] at H
    obtain ⟨rfl, rfl⟩ := H
    obtain ⟨HGz4, hgz4⟩ := HI0.out
    have hcz4_0 := cellS42_0 HGz4
    have hfz4_0 := blk_frozen HGz4 0
    clear HGz4 hgz4
    go_enter Try.func18, Try.ntmps18
    go_wp2
    go_ret
    exact ⟨by first | rfl | (simp [errW_none, errW_some] <;> rfl) | (simp [*, errW_none, errW_some] <;> rfl), by repeat (first | (with_reducible first | exact HI0.out | apply IsS42.alloc | apply IsS42.drewN | apply IsS42.drew | apply IsS42.set_0) | exact HI0.out), by repeat (first | (with_reducible first | exact HB.out | apply below_alloc | apply pw_below_drewN | apply below_drew1 | refine below_set ?_ (IsS42.ge HI0.out)) | exact HB.out), by repeat (first | (with_reducible first | exact HK.out | apply KeepBut.set_ | apply keep_drewN | apply keep_drew | apply keep_alloc) | exact HK.out)⟩
  · rw [if_neg c3] at H
    have c3b0 : decide ((wrap64 (2147483647 - s0_0)) < a1) = false := decide_eq_false c3
    clear c3
    by_cases c5 : a1 < (wrap64 ((-2147483647) - s0_0))
    · rw [if_pos c5] at H
      have c5b0 : decide (a1 < (wrap64 ((-2147483647) - s0_0))) = true := decide_eq_true c5
      clear c5
      simp only [Option.some.injEq, Prod.mk.injEq] at H
      obtain ⟨rfl, rfl⟩ := H
      obtain ⟨HGz6, hgz6⟩ := HI0.out
      have hcz6_0 := cellS42_0 HGz6
      have hfz6_0 := blk_frozen HGz6 0
      clear HGz6 hgz6
      go_enter Try.func18, Try.ntmps18
      go_wp2
      go_ret
      exact ⟨by first | rfl | (simp [errW_none, errW_some] <;> rfl) | (simp [*, errW_none, errW_some] <;> rfl), by repeat (first | (with_reducible first | exact HI0.out | apply IsS42.alloc | apply IsS42.drewN | apply IsS42.drew | apply IsS42.set_0) | exact HI0.out), by repeat (first | (with_reducible first | exact HB.out | apply below_alloc | apply pw_below_drewN | apply below_drew1 | refine below_set ?_ (IsS42.ge HI0.out)) | exact HB.out), by repeat (first | (with_reducible first | exact HK.out | apply KeepBut.set_ | apply keep_drewN | apply keep_drew | apply keep_alloc) | exact HK.out)⟩
    · rw [if_neg c5] at H
      have c5b0 : decide (a1 < (wrap64 ((-2147483647) - s0_0))) = false := decide_eq_false c5
      clear c5
      simp only [Option.some.injEq, Prod.mk.injEq] at H
      obtain ⟨rfl, rfl⟩ := H
      obtain ⟨HGz7, hgz7⟩ := HI0.out
      have hcz7_0 := cellS42_0 HGz7
      have hfz7_0 := blk_frozen HGz7 0
      clear HGz7 hgz7
      go_enter Try.func18, Try.ntmps18
      go_wp2
      go_ret
      exact ⟨by first | rfl | (simp [errW_none, errW_some] <;> rfl) | (simp [*, errW_none, errW_some] <;> rfl), by repeat (first | (with_reducible first | exact HI0.out | apply IsS42.alloc | apply IsS42.drewN | apply IsS42.drew | apply IsS42.set_0) | exact HI0.out), by repeat (first | (with_reducible first | exact HB.out | apply below_alloc | apply pw_below_drewN | apply below_drew1 | refine below_set ?_ (IsS42.ge HI0.out)) | exact HB.out), by repeat (first | (with_reducible first | exact HK.out | apply KeepBut.set_ | apply keep_drewN | apply keep_drew | apply keep_alloc) | exact HK.out)⟩

/-! ### window_Window_Give: function 17 -/
def window_Window_Give.f (s0_0 : Int) (a1 : Int) : Option (Int × Int) := if a1 < 1 then (some (1, s0_0)) else ((window_Window_Shift.f s0_0 a1).bind fun bt102 => (some (bt102.1, bt102.2)))
set_option maxHeartbeats 8000000 in
set_option maxRecDepth 100000 in
theorem window_Window_Give.calls (g : Nat) (s0_0 : Int) (a1 : Int) (r1 : Int) (r2 : Int) (w0 w : World) (hI : IsS42 w0 w g s0_0) (hB : Below w0.heap.size w0 w) (h : window_Window_Give.f s0_0 a1 = some (r1, r2)) :
    Calls Try.prog 17 #[.pointer (some ⟨g, 0, none⟩), .int .i64 a1] w fun e w' => e = .returned (.int .i64 r1) ∧ IsS42 w0 w' g r2 ∧ Below w0.heap.size w0 w' ∧ KeepBut w w' g none := by
  have HI0 := Aside0.mk hI
  have HK := Aside0.mk (KeepBut.refl w g none)
  have HL := Aside0.mk hB.size
  clear hI
  have HW0 := Aside0.mk hB.size
  have HB := Aside0.mk hB
  clear hB
  have H : (if a1 < 1 then (some (1, s0_0)) else ((window_Window_Shift.f s0_0 a1).bind fun bt102 => (some (bt102.1, bt102.2)))) = some (r1, r2) := h
  clear h
  by_cases c3 : a1 < 1
  · rw [if_pos c3] at H
    have c3b0 : decide (a1 < 1) = true := decide_eq_true c3
    clear c3
    simp only [Option.some.injEq, Prod.mk.injEq] at H
    obtain ⟨rfl, rfl⟩ := H
    go_enter Try.func17, Try.ntmps17
    go_wp2
    go_ret
    exact ⟨by first | rfl | (simp [errW_none, errW_some] <;> rfl) | (simp [*, errW_none, errW_some] <;> rfl), by repeat (first | (with_reducible first | exact HI0.out | apply IsS42.alloc | apply IsS42.drewN | apply IsS42.drew | apply IsS42.set_0) | exact HI0.out), by repeat (first | (with_reducible first | exact HB.out | apply below_alloc | apply pw_below_drewN | apply below_drew1 | refine below_set ?_ (IsS42.ge HI0.out)) | exact HB.out), by repeat (first | (with_reducible first | exact HK.out | apply KeepBut.set_ | apply keep_drewN | apply keep_drew | apply keep_alloc) | exact HK.out)⟩
  · rw [if_neg c3] at H
    have c3b0 : decide (a1 < 1) = false := decide_eq_false c3
    clear c3
    replace H := Option.bind_eq_some_iff.mp H
    obtain ⟨⟨t102, t103⟩, A40, H⟩ := H
    replace H : (some (t102, t103)) = some (r1, r2) := H
    have A4 := Aside0.mk A40
    clear A40
    simp only [Option.some.injEq, Prod.mk.injEq] at H
    obtain ⟨rfl, rfl⟩ := H
    go_enter Try.func17, Try.ntmps17
    go_wp2_with (first | ((with_reducible refine gate_callee (f := 18) rfl ?_); refine goesL_ (some 9) rfl rfl Try.func18 (by kernel_rfl) rfl #[.pointer (some ⟨g, 0, none⟩), .int .i64 a1] rfl (by (try simp only [List.map_toArray, List.map_cons, List.map_nil]); first | done | rfl | (simp only [List.length_drop, List.length_take]; rfl)) ?_; (with_reducible refine (window_Window_Shift.calls g s0_0 a1 t102 t103 w0 _ ?side1 ?side2 A4.out).mono ?_); (case side1 => repeat (first | (with_reducible first | exact HI0.out | apply IsS42.alloc | apply IsS42.drewN | apply IsS42.drew | apply IsS42.set_0) | exact HI0.out)); (case side2 => repeat (first | (with_reducible first | exact HB.out | apply below_alloc | apply pw_below_drewN | apply below_drew1 | refine below_set ?_ (IsS42.ge HI0.out)) | exact HB.out)); rintro e w5 ⟨rfl, hi, hb, hk⟩; refine ⟨_, rfl, ?_⟩; have n0_ := Aside0.mk (KeepBut.trans (by repeat (first | (with_reducible first | exact HK.out | apply KeepBut.set_ | apply keep_drewN | apply keep_drew | apply keep_alloc) | exact HK.out)) hk (.inl rfl)); have n1_ := Aside0.mk (hb); have n2_ := Aside0.mk (hi); clear HK; clear HB; clear HI0; have HK := n0_; have HB := n1_; have HI0 := n2_; clear n0_ n1_ n2_; (try clear hb); (try clear hb2); (try clear hk); (try clear hi)))
    go_ret
    exact ⟨by first | rfl | (simp [errW_none, errW_some] <;> rfl) | (simp [*, errW_none, errW_some] <;> rfl), by repeat (first | (with_reducible first | exact HI0.out | apply IsS42.alloc | apply IsS42.drewN | apply IsS42.drew | apply IsS42.set_0) | exact HI0.out), by repeat (first | (with_reducible first | exact HB.out | apply below_alloc | apply pw_below_drewN | apply below_drew1 | refine below_set ?_ (IsS42.ge HI0.out)) | exact HB.out), by repeat (first | (with_reducible first | exact HK.out | apply KeepBut.set_ | apply keep_drewN | apply keep_drew | apply keep_alloc) | exact HK.out)⟩

/-! ### heraldlaw09_first: function 8 -/
def heraldlaw09_first.f  : Option (Bool) := (window_New.f 65535).bind fun t104 => ((window_Window_Take.f t104 65536).bind fun bt106 => ((window_Window_Take.f bt106.2 65535).bind fun bt108 => ((window_Window_Shift.f bt108.2 (-5)).bind fun bt110 => ((window_Window_Give.f bt110.2 0).bind fun bt112 => (if bt106.1 = true then (some false) else (if bt108.1 = true then (if bt110.1 = 0 then (if bt112.1 = 1 then ((window_Window_Left.f bt112.2).bind fun bt114 => (if bt114.1 = (-5) then ((window_Room.f 100 50 70 16384).bind fun t116 => (some (t116 == 50))) else (some false))) else (some false)) else (some false)) else (some false)))))))
set_option maxHeartbeats 8000000 in
set_option maxRecDepth 100000 in
theorem heraldlaw09_first.calls  (r : Bool) (w : World) (h : heraldlaw09_first.f  = some r) :
    Calls Try.prog 8 #[] w fun e w' => e = .returned (.bool r) ∧ Below w.heap.size w w' := by
  have HB := Aside0.mk (Below.refl w.heap.size w)
  have H : ((window_New.f 65535).bind fun t104 => ((window_Window_Take.f t104 65536).bind fun bt106 => ((window_Window_Take.f bt106.2 65535).bind fun bt108 => ((window_Window_Shift.f bt108.2 (-5)).bind fun bt110 => ((window_Window_Give.f bt110.2 0).bind fun bt112 => (if bt106.1 = true then (some false) else (if bt108.1 = true then (if bt110.1 = 0 then (if bt112.1 = 1 then ((window_Window_Left.f bt112.2).bind fun bt114 => (if bt114.1 = (-5) then ((window_Room.f 100 50 70 16384).bind fun t116 => (some (t116 == 50))) else (some false))) else (some false)) else (some false)) else (some false)))))))) = some r := h
  clear h
  replace H := Option.bind_eq_some_iff.mp H
  obtain ⟨t104, A10, H⟩ := H
  replace H : ((window_Window_Take.f t104 65536).bind fun bt106 => ((window_Window_Take.f bt106.2 65535).bind fun bt108 => ((window_Window_Shift.f bt108.2 (-5)).bind fun bt110 => ((window_Window_Give.f bt110.2 0).bind fun bt112 => (if bt106.1 = true then (some false) else (if bt108.1 = true then (if bt110.1 = 0 then (if bt112.1 = 1 then ((window_Window_Left.f bt112.2).bind fun bt114 => (if bt114.1 = (-5) then ((window_Room.f 100 50 70 16384).bind fun t116 => (some (t116 == 50))) else (some false))) else (some false)) else (some false)) else (some false))))))) = some r := H
  have A1 := Aside0.mk A10
  clear A10
  replace H := Option.bind_eq_some_iff.mp H
  obtain ⟨⟨t106, t107⟩, A20, H⟩ := H
  replace H : ((window_Window_Take.f t107 65535).bind fun bt108 => ((window_Window_Shift.f bt108.2 (-5)).bind fun bt110 => ((window_Window_Give.f bt110.2 0).bind fun bt112 => (if t106 = true then (some false) else (if bt108.1 = true then (if bt110.1 = 0 then (if bt112.1 = 1 then ((window_Window_Left.f bt112.2).bind fun bt114 => (if bt114.1 = (-5) then ((window_Room.f 100 50 70 16384).bind fun t116 => (some (t116 == 50))) else (some false))) else (some false)) else (some false)) else (some false)))))) = some r := H
  have A2 := Aside0.mk A20
  clear A20
  replace H := Option.bind_eq_some_iff.mp H
  obtain ⟨⟨t108, t109⟩, A30, H⟩ := H
  replace H : ((window_Window_Shift.f t109 (-5)).bind fun bt110 => ((window_Window_Give.f bt110.2 0).bind fun bt112 => (if t106 = true then (some false) else (if t108 = true then (if bt110.1 = 0 then (if bt112.1 = 1 then ((window_Window_Left.f bt112.2).bind fun bt114 => (if bt114.1 = (-5) then ((window_Room.f 100 50 70 16384).bind fun t116 => (some (t116 == 50))) else (some false))) else (some false)) else (some false)) else (some false))))) = some r := H
  have A3 := Aside0.mk A30
  clear A30
  replace H := Option.bind_eq_some_iff.mp H
  obtain ⟨⟨t110, t111⟩, A40, H⟩ := H
  replace H : ((window_Window_Give.f t111 0).bind fun bt112 => (if t106 = true then (some false) else (if t108 = true then (if t110 = 0 then (if bt112.1 = 1 then ((window_Window_Left.f bt112.2).bind fun bt114 => (if bt114.1 = (-5) then ((window_Room.f 100 50 70 16384).bind fun t116 => (some (t116 == 50))) else (some false))) else (some false)) else (some false)) else (some false)))) = some r := H
  have A4 := Aside0.mk A40
  clear A40
  replace H := Option.bind_eq_some_iff.mp H
  obtain ⟨⟨t112, t113⟩, A50, H⟩ := H
  replace H : (if t106 = true then (some false) else (if t108 = true then (if t110 = 0 then (if t112 = 1 then ((window_Window_Left.f t113).bind fun bt114 => (if bt114.1 = (-5) then ((window_Room.f 100 50 70 16384).bind fun t116 => (some (t116 == 50))) else (some false))) else (some false)) else (some false)) else (some false))) = some r := H
  have A5 := Aside0.mk A50
  clear A50
  by_cases c6 : t106 = true
  · subst c6
    have H1 : (some false) = some r := by rw [if_pos rfl] at H; exact H
    clear H
    have H := H1
    clear H1
    obtain rfl := Option.some.inj H
    go_enter Try.func8, Try.ntmps8
    go_wp2_with (first | ((with_reducible refine gate_callee (f := 9) rfl ?_); refine goesL_ (some 6) rfl rfl Try.func9 (by kernel_rfl) rfl #[.int .i64 65535] rfl (by (try simp only [List.map_toArray, List.map_cons, List.map_nil]); first | done | rfl | (simp only [List.length_drop, List.length_take]; rfl)) ?_; (with_reducible refine (window_New.calls 65535 t104 w _ ?side1 A1.out).mono ?_); (case side1 => repeat (first | (with_reducible first | exact HB.out | apply below_alloc | apply pw_below_drewN | apply below_drew1) | exact HB.out)); rintro e w7 ⟨g105, rfl, hi, hb, hb2⟩; refine ⟨_, rfl, ?_⟩; have n0_ := Aside0.mk (hb); have n1_ := Aside0.mk (hi); clear HB; have HB := n0_; have HI105 := n1_; clear n0_ n1_; (try clear hb); (try clear hb2); (try clear hk); (try clear hi)) | ((with_reducible refine gate_callee (f := 16) rfl ?_); refine goesL_ (some 10) rfl rfl Try.func16 (by kernel_rfl) rfl #[.pointer (some ⟨g105, 0, none⟩), .int .i64 65536] rfl (by (try simp only [List.map_toArray, List.map_cons, List.map_nil]); first | done | rfl | (simp only [List.length_drop, List.length_take]; rfl)) ?_; (with_reducible refine (window_Window_Take.calls g105 t104 65536 true t107 w _ ?side1 ?side2 A2.out).mono ?_); (case side1 => repeat (first | (with_reducible first | exact HI105.out | apply IsS42.alloc | apply IsS42.drewN | apply IsS42.drew | apply IsS42.set_0) | exact HI105.out)); (case side2 => repeat (first | (with_reducible first | exact HB.out | apply below_alloc | apply pw_below_drewN | apply below_drew1 | refine below_set ?_ (IsS42.ge HI105.out)) | exact HB.out)); rintro e w8 ⟨rfl, hi, hb, hk⟩; refine ⟨_, rfl, ?_⟩; have n0_ := Aside0.mk (hb); have n1_ := Aside0.mk (hi); clear HB; clear HI105; have HB := n0_; have HI105 := n1_; clear n0_ n1_; (try clear hb); (try clear hb2); (try clear hk); (try clear hi)) | ((with_reducible refine gate_callee (f := 16) rfl ?_); refine goesL_ (some 12) rfl rfl Try.func16 (by kernel_rfl) rfl #[.pointer (some ⟨g105, 0, none⟩), .int .i64 65535] rfl (by (try simp only [List.map_toArray, List.map_cons, List.map_nil]); first | done | rfl | (simp only [List.length_drop, List.length_take]; rfl)) ?_; (with_reducible refine (window_Window_Take.calls g105 t107 65535 t108 t109 w _ ?side1 ?side2 A3.out).mono ?_); (case side1 => repeat (first | (with_reducible first | exact HI105.out | apply IsS42.alloc | apply IsS42.drewN | apply IsS42.drew | apply IsS42.set_0) | exact HI105.out)); (case side2 => repeat (first | (with_reducible first | exact HB.out | apply below_alloc | apply pw_below_drewN | apply below_drew1 | refine below_set ?_ (IsS42.ge HI105.out)) | exact HB.out)); rintro e w9 ⟨rfl, hi, hb, hk⟩; refine ⟨_, rfl, ?_⟩; have n0_ := Aside0.mk (hb); have n1_ := Aside0.mk (hi); clear HB; clear HI105; have HB := n0_; have HI105 := n1_; clear n0_ n1_; (try clear hb); (try clear hb2); (try clear hk); (try clear hi)) | ((with_reducible refine gate_callee (f := 18) rfl ?_); refine goesL_ (some 14) rfl rfl Try.func18 (by kernel_rfl) rfl #[.pointer (some ⟨g105, 0, none⟩), .int .i64 (-5)] rfl (by (try simp only [List.map_toArray, List.map_cons, List.map_nil]); first | done | rfl | (simp only [List.length_drop, List.length_take]; rfl)) ?_; (with_reducible refine (window_Window_Shift.calls g105 t109 (-5) t110 t111 w _ ?side1 ?side2 A4.out).mono ?_); (case side1 => repeat (first | (with_reducible first | exact HI105.out | apply IsS42.alloc | apply IsS42.drewN | apply IsS42.drew | apply IsS42.set_0) | exact HI105.out)); (case side2 => repeat (first | (with_reducible first | exact HB.out | apply below_alloc | apply pw_below_drewN | apply below_drew1 | refine below_set ?_ (IsS42.ge HI105.out)) | exact HB.out)); rintro e w10 ⟨rfl, hi, hb, hk⟩; refine ⟨_, rfl, ?_⟩; have n0_ := Aside0.mk (hb); have n1_ := Aside0.mk (hi); clear HB; clear HI105; have HB := n0_; have HI105 := n1_; clear n0_ n1_; (try clear hb); (try clear hb2); (try clear hk); (try clear hi)) | ((with_reducible refine gate_callee (f := 17) rfl ?_); refine goesL_ (some 16) rfl rfl Try.func17 (by kernel_rfl) rfl #[.pointer (some ⟨g105, 0, none⟩), .int .i64 0] rfl (by (try simp only [List.map_toArray, List.map_cons, List.map_nil]); first | done | rfl | (simp only [List.length_drop, List.length_take]; rfl)) ?_; (with_reducible refine (window_Window_Give.calls g105 t111 0 t112 t113 w _ ?side1 ?side2 A5.out).mono ?_); (case side1 => repeat (first | (with_reducible first | exact HI105.out | apply IsS42.alloc | apply IsS42.drewN | apply IsS42.drew | apply IsS42.set_0) | exact HI105.out)); (case side2 => repeat (first | (with_reducible first | exact HB.out | apply below_alloc | apply pw_below_drewN | apply below_drew1 | refine below_set ?_ (IsS42.ge HI105.out)) | exact HB.out)); rintro e w11 ⟨rfl, hi, hb, hk⟩; refine ⟨_, rfl, ?_⟩; have n0_ := Aside0.mk (hb); have n1_ := Aside0.mk (hi); clear HB; clear HI105; have HB := n0_; have HI105 := n1_; clear n0_ n1_; (try clear hb); (try clear hb2); (try clear hk); (try clear hi)))
    go_ret
    exact ⟨by first | rfl | (simp [errW_none, errW_some] <;> rfl) | (simp [*, errW_none, errW_some] <;> rfl), by repeat (first | (with_reducible first | exact HB.out | apply below_alloc | apply pw_below_drewN | apply below_drew1 | refine below_set ?_ (IsS42.ge HI105.out)) | exact HB.out)⟩
  · replace c6 := Bool.eq_false_iff.mpr c6
    subst c6
    have H1 : (if t108 = true then (if t110 = 0 then (if t112 = 1 then ((window_Window_Left.f t113).bind fun bt114 => (if bt114.1 = (-5) then ((window_Room.f 100 50 70 16384).bind fun t116 => (some (t116 == 50))) else (some false))) else (some false)) else (some false)) else (some false)) = some r := by rw [if_neg (show ¬ (false = true) by decide)] at H; exact H
    clear H
    have H := H1
    clear H1
    by_cases c12 : t108 = true
    · subst c12
      have H1 : (if t110 = 0 then (if t112 = 1 then ((window_Window_Left.f t113).bind fun bt114 => (if bt114.1 = (-5) then ((window_Room.f 100 50 70 16384).bind fun t116 => (some (t116 == 50))) else (some false))) else (some false)) else (some false)) = some r := by rw [if_pos rfl] at H; exact H
      clear H
      have H := H1
      clear H1
      by_cases c13 : t110 = 0
      · rw [if_pos c13] at H
        have c13b0 : (t110 == 0) = true := beq_iff_eq.mpr c13
        have c13b1 : (t110 != 0) = false := bne_eq_false_iff_eq.mpr c13
        clear c13
        by_cases c14 : t112 = 1
        · rw [if_pos c14] at H
          have c14b0 : (t112 == 1) = true := beq_iff_eq.mpr c14
          have c14b1 : (t112 != 1) = false := bne_eq_false_iff_eq.mpr c14
          clear c14
          replace H := Option.bind_eq_some_iff.mp H
          obtain ⟨⟨t114, t115⟩, A150, H⟩ := H
          replace H : (if t114 = (-5) then ((window_Room.f 100 50 70 16384).bind fun t116 => (some (t116 == 50))) else (some false)) = some r := H
          have A15 := Aside0.mk A150
          clear A150
          by_cases c16 : t114 = (-5)
          · rw [if_pos c16] at H
            have c16b0 : (t114 == (-5)) = true := beq_iff_eq.mpr c16
            have c16b1 : (t114 != (-5)) = false := bne_eq_false_iff_eq.mpr c16
            clear c16
            replace H := Option.bind_eq_some_iff.mp H
            obtain ⟨t116, A170, H⟩ := H
            replace H : (some (t116 == 50)) = some r := H
            have A17 := Aside0.mk A170
            clear A170
            obtain rfl := Option.some.inj H
            go_enter Try.func8, Try.ntmps8
            go_wp2_with (first | ((with_reducible refine gate_callee (f := 9) rfl ?_); refine goesL_ (some 6) rfl rfl Try.func9 (by kernel_rfl) rfl #[.int .i64 65535] rfl (by (try simp only [List.map_toArray, List.map_cons, List.map_nil]); first | done | rfl | (simp only [List.length_drop, List.length_take]; rfl)) ?_; (with_reducible refine (window_New.calls 65535 t104 w _ ?side1 A1.out).mono ?_); (case side1 => repeat (first | (with_reducible first | exact HB.out | apply below_alloc | apply pw_below_drewN | apply below_drew1) | exact HB.out)); rintro e w18 ⟨g105, rfl, hi, hb, hb2⟩; refine ⟨_, rfl, ?_⟩; have n0_ := Aside0.mk (hb); have n1_ := Aside0.mk (hi); clear HB; have HB := n0_; have HI105 := n1_; clear n0_ n1_; (try clear hb); (try clear hb2); (try clear hk); (try clear hi)) | ((with_reducible refine gate_callee (f := 16) rfl ?_); refine goesL_ (some 10) rfl rfl Try.func16 (by kernel_rfl) rfl #[.pointer (some ⟨g105, 0, none⟩), .int .i64 65536] rfl (by (try simp only [List.map_toArray, List.map_cons, List.map_nil]); first | done | rfl | (simp only [List.length_drop, List.length_take]; rfl)) ?_; (with_reducible refine (window_Window_Take.calls g105 t104 65536 false t107 w _ ?side1 ?side2 A2.out).mono ?_); (case side1 => repeat (first | (with_reducible first | exact HI105.out | apply IsS42.alloc | apply IsS42.drewN | apply IsS42.drew | apply IsS42.set_0) | exact HI105.out)); (case side2 => repeat (first | (with_reducible first | exact HB.out | apply below_alloc | apply pw_below_drewN | apply below_drew1 | refine below_set ?_ (IsS42.ge HI105.out)) | exact HB.out)); rintro e w19 ⟨rfl, hi, hb, hk⟩; refine ⟨_, rfl, ?_⟩; have n0_ := Aside0.mk (hb); have n1_ := Aside0.mk (hi); clear HB; clear HI105; have HB := n0_; have HI105 := n1_; clear n0_ n1_; (try clear hb); (try clear hb2); (try clear hk); (try clear hi)) | ((with_reducible refine gate_callee (f := 16) rfl ?_); refine goesL_ (some 12) rfl rfl Try.func16 (by kernel_rfl) rfl #[.pointer (some ⟨g105, 0, none⟩), .int .i64 65535] rfl (by (try simp only [List.map_toArray, List.map_cons, List.map_nil]); first | done | rfl | (simp only [List.length_drop, List.length_take]; rfl)) ?_; (with_reducible refine (window_Window_Take.calls g105 t107 65535 true t109 w _ ?side1 ?side2 A3.out).mono ?_); (case side1 => repeat (first | (with_reducible first | exact HI105.out | apply IsS42.alloc | apply IsS42.drewN | apply IsS42.drew | apply IsS42.set_0) | exact HI105.out)); (case side2 => repeat (first | (with_reducible first | exact HB.out | apply below_alloc | apply pw_below_drewN | apply below_drew1 | refine below_set ?_ (IsS42.ge HI105.out)) | exact HB.out)); rintro e w20 ⟨rfl, hi, hb, hk⟩; refine ⟨_, rfl, ?_⟩; have n0_ := Aside0.mk (hb); have n1_ := Aside0.mk (hi); clear HB; clear HI105; have HB := n0_; have HI105 := n1_; clear n0_ n1_; (try clear hb); (try clear hb2); (try clear hk); (try clear hi)) | ((with_reducible refine gate_callee (f := 18) rfl ?_); refine goesL_ (some 14) rfl rfl Try.func18 (by kernel_rfl) rfl #[.pointer (some ⟨g105, 0, none⟩), .int .i64 (-5)] rfl (by (try simp only [List.map_toArray, List.map_cons, List.map_nil]); first | done | rfl | (simp only [List.length_drop, List.length_take]; rfl)) ?_; (with_reducible refine (window_Window_Shift.calls g105 t109 (-5) t110 t111 w _ ?side1 ?side2 A4.out).mono ?_); (case side1 => repeat (first | (with_reducible first | exact HI105.out | apply IsS42.alloc | apply IsS42.drewN | apply IsS42.drew | apply IsS42.set_0) | exact HI105.out)); (case side2 => repeat (first | (with_reducible first | exact HB.out | apply below_alloc | apply pw_below_drewN | apply below_drew1 | refine below_set ?_ (IsS42.ge HI105.out)) | exact HB.out)); rintro e w21 ⟨rfl, hi, hb, hk⟩; refine ⟨_, rfl, ?_⟩; have n0_ := Aside0.mk (hb); have n1_ := Aside0.mk (hi); clear HB; clear HI105; have HB := n0_; have HI105 := n1_; clear n0_ n1_; (try clear hb); (try clear hb2); (try clear hk); (try clear hi)) | ((with_reducible refine gate_callee (f := 17) rfl ?_); refine goesL_ (some 16) rfl rfl Try.func17 (by kernel_rfl) rfl #[.pointer (some ⟨g105, 0, none⟩), .int .i64 0] rfl (by (try simp only [List.map_toArray, List.map_cons, List.map_nil]); first | done | rfl | (simp only [List.length_drop, List.length_take]; rfl)) ?_; (with_reducible refine (window_Window_Give.calls g105 t111 0 t112 t113 w _ ?side1 ?side2 A5.out).mono ?_); (case side1 => repeat (first | (with_reducible first | exact HI105.out | apply IsS42.alloc | apply IsS42.drewN | apply IsS42.drew | apply IsS42.set_0) | exact HI105.out)); (case side2 => repeat (first | (with_reducible first | exact HB.out | apply below_alloc | apply pw_below_drewN | apply below_drew1 | refine below_set ?_ (IsS42.ge HI105.out)) | exact HB.out)); rintro e w22 ⟨rfl, hi, hb, hk⟩; refine ⟨_, rfl, ?_⟩; have n0_ := Aside0.mk (hb); have n1_ := Aside0.mk (hi); clear HB; clear HI105; have HB := n0_; have HI105 := n1_; clear n0_ n1_; (try clear hb); (try clear hb2); (try clear hk); (try clear hi)) | (go_at_call 12; (with_reducible refine (window_Window_Left.calls g105 t113 t114 t115 w _ ?side1 ?side2 A15.out).mono ?_); (case side1 => repeat (first | (with_reducible first | exact HI105.out | apply IsS42.alloc | apply IsS42.drewN | apply IsS42.drew | apply IsS42.set_0) | exact HI105.out)); (case side2 => repeat (first | (with_reducible first | exact HB.out | apply below_alloc | apply pw_below_drewN | apply below_drew1 | refine below_set ?_ (IsS42.ge HI105.out)) | exact HB.out)); rintro e w23 ⟨rfl, hi, hb, hk⟩; have n0_ := Aside0.mk (hb); have n1_ := Aside0.mk (hi); clear HB; clear HI105; have HB := n0_; have HI105 := n1_; clear n0_ n1_; (try clear hb); (try clear hb2); (try clear hk); (try clear hi)) | (go_at_call 14; (with_reducible refine (window_Room.calls 100 50 70 16384 t116 _ A17.out).mono ?_); rintro e w24 ⟨rfl, hb⟩; have n0_ := Aside0.mk (IsS42.below (by repeat (first | (with_reducible first | exact HI105.out | apply IsS42.alloc | apply IsS42.drewN | apply IsS42.drew | apply IsS42.set_0) | exact HI105.out)) hb); have n1_ := Aside0.mk (below_step (by repeat (first | (with_reducible first | exact HB.out | apply below_alloc | apply pw_below_drewN | apply below_drew1 | refine below_set ?_ (IsS42.ge HI105.out)) | exact HB.out)) hb); clear HI105; clear HB; have HI105 := n0_; have HB := n1_; clear n0_ n1_; (try clear hb); (try clear hb2); (try clear hk); (try clear hi)))
            go_ret
            exact ⟨by first | rfl | (simp [errW_none, errW_some] <;> rfl) | (simp [*, errW_none, errW_some] <;> rfl), by repeat (first | (with_reducible first | exact HB.out | apply below_alloc | apply pw_below_drewN | apply below_drew1 | refine below_set ?_ (IsS42.ge HI105.out)) | exact HB.out)⟩
          · rw [if_neg c16] at H
            have c16b0 : (t114 == (-5)) = false := beq_eq_false_iff_ne.mpr c16
            have c16b1 : (t114 != (-5)) = true := bne_iff_ne.mpr c16
            obtain rfl := Option.some.inj H
            go_enter Try.func8, Try.ntmps8
            go_wp2_with (first | ((with_reducible refine gate_callee (f := 9) rfl ?_); refine goesL_ (some 6) rfl rfl Try.func9 (by kernel_rfl) rfl #[.int .i64 65535] rfl (by (try simp only [List.map_toArray, List.map_cons, List.map_nil]); first | done | rfl | (simp only [List.length_drop, List.length_take]; rfl)) ?_; (with_reducible refine (window_New.calls 65535 t104 w _ ?side1 A1.out).mono ?_); (case side1 => repeat (first | (with_reducible first | exact HB.out | apply below_alloc | apply pw_below_drewN | apply below_drew1) | exact HB.out)); rintro e w25 ⟨g105, rfl, hi, hb, hb2⟩; refine ⟨_, rfl, ?_⟩; have n0_ := Aside0.mk (hb); have n1_ := Aside0.mk (hi); clear HB; have HB := n0_; have HI105 := n1_; clear n0_ n1_; (try clear hb); (try clear hb2); (try clear hk); (try clear hi)) | ((with_reducible refine gate_callee (f := 16) rfl ?_); refine goesL_ (some 10) rfl rfl Try.func16 (by kernel_rfl) rfl #[.pointer (some ⟨g105, 0, none⟩), .int .i64 65536] rfl (by (try simp only [List.map_toArray, List.map_cons, List.map_nil]); first | done | rfl | (simp only [List.length_drop, List.length_take]; rfl)) ?_; (with_reducible refine (window_Window_Take.calls g105 t104 65536 false t107 w _ ?side1 ?side2 A2.out).mono ?_); (case side1 => repeat (first | (with_reducible first | exact HI105.out | apply IsS42.alloc | apply IsS42.drewN | apply IsS42.drew | apply IsS42.set_0) | exact HI105.out)); (case side2 => repeat (first | (with_reducible first | exact HB.out | apply below_alloc | apply pw_below_drewN | apply below_drew1 | refine below_set ?_ (IsS42.ge HI105.out)) | exact HB.out)); rintro e w26 ⟨rfl, hi, hb, hk⟩; refine ⟨_, rfl, ?_⟩; have n0_ := Aside0.mk (hb); have n1_ := Aside0.mk (hi); clear HB; clear HI105; have HB := n0_; have HI105 := n1_; clear n0_ n1_; (try clear hb); (try clear hb2); (try clear hk); (try clear hi)) | ((with_reducible refine gate_callee (f := 16) rfl ?_); refine goesL_ (some 12) rfl rfl Try.func16 (by kernel_rfl) rfl #[.pointer (some ⟨g105, 0, none⟩), .int .i64 65535] rfl (by (try simp only [List.map_toArray, List.map_cons, List.map_nil]); first | done | rfl | (simp only [List.length_drop, List.length_take]; rfl)) ?_; (with_reducible refine (window_Window_Take.calls g105 t107 65535 true t109 w _ ?side1 ?side2 A3.out).mono ?_); (case side1 => repeat (first | (with_reducible first | exact HI105.out | apply IsS42.alloc | apply IsS42.drewN | apply IsS42.drew | apply IsS42.set_0) | exact HI105.out)); (case side2 => repeat (first | (with_reducible first | exact HB.out | apply below_alloc | apply pw_below_drewN | apply below_drew1 | refine below_set ?_ (IsS42.ge HI105.out)) | exact HB.out)); rintro e w27 ⟨rfl, hi, hb, hk⟩; refine ⟨_, rfl, ?_⟩; have n0_ := Aside0.mk (hb); have n1_ := Aside0.mk (hi); clear HB; clear HI105; have HB := n0_; have HI105 := n1_; clear n0_ n1_; (try clear hb); (try clear hb2); (try clear hk); (try clear hi)) | ((with_reducible refine gate_callee (f := 18) rfl ?_); refine goesL_ (some 14) rfl rfl Try.func18 (by kernel_rfl) rfl #[.pointer (some ⟨g105, 0, none⟩), .int .i64 (-5)] rfl (by (try simp only [List.map_toArray, List.map_cons, List.map_nil]); first | done | rfl | (simp only [List.length_drop, List.length_take]; rfl)) ?_; (with_reducible refine (window_Window_Shift.calls g105 t109 (-5) t110 t111 w _ ?side1 ?side2 A4.out).mono ?_); (case side1 => repeat (first | (with_reducible first | exact HI105.out | apply IsS42.alloc | apply IsS42.drewN | apply IsS42.drew | apply IsS42.set_0) | exact HI105.out)); (case side2 => repeat (first | (with_reducible first | exact HB.out | apply below_alloc | apply pw_below_drewN | apply below_drew1 | refine below_set ?_ (IsS42.ge HI105.out)) | exact HB.out)); rintro e w28 ⟨rfl, hi, hb, hk⟩; refine ⟨_, rfl, ?_⟩; have n0_ := Aside0.mk (hb); have n1_ := Aside0.mk (hi); clear HB; clear HI105; have HB := n0_; have HI105 := n1_; clear n0_ n1_; (try clear hb); (try clear hb2); (try clear hk); (try clear hi)) | ((with_reducible refine gate_callee (f := 17) rfl ?_); refine goesL_ (some 16) rfl rfl Try.func17 (by kernel_rfl) rfl #[.pointer (some ⟨g105, 0, none⟩), .int .i64 0] rfl (by (try simp only [List.map_toArray, List.map_cons, List.map_nil]); first | done | rfl | (simp only [List.length_drop, List.length_take]; rfl)) ?_; (with_reducible refine (window_Window_Give.calls g105 t111 0 t112 t113 w _ ?side1 ?side2 A5.out).mono ?_); (case side1 => repeat (first | (with_reducible first | exact HI105.out | apply IsS42.alloc | apply IsS42.drewN | apply IsS42.drew | apply IsS42.set_0) | exact HI105.out)); (case side2 => repeat (first | (with_reducible first | exact HB.out | apply below_alloc | apply pw_below_drewN | apply below_drew1 | refine below_set ?_ (IsS42.ge HI105.out)) | exact HB.out)); rintro e w29 ⟨rfl, hi, hb, hk⟩; refine ⟨_, rfl, ?_⟩; have n0_ := Aside0.mk (hb); have n1_ := Aside0.mk (hi); clear HB; clear HI105; have HB := n0_; have HI105 := n1_; clear n0_ n1_; (try clear hb); (try clear hb2); (try clear hk); (try clear hi)) | (go_at_call 12; (with_reducible refine (window_Window_Left.calls g105 t113 t114 t115 w _ ?side1 ?side2 A15.out).mono ?_); (case side1 => repeat (first | (with_reducible first | exact HI105.out | apply IsS42.alloc | apply IsS42.drewN | apply IsS42.drew | apply IsS42.set_0) | exact HI105.out)); (case side2 => repeat (first | (with_reducible first | exact HB.out | apply below_alloc | apply pw_below_drewN | apply below_drew1 | refine below_set ?_ (IsS42.ge HI105.out)) | exact HB.out)); rintro e w30 ⟨rfl, hi, hb, hk⟩; have n0_ := Aside0.mk (hb); have n1_ := Aside0.mk (hi); clear HB; clear HI105; have HB := n0_; have HI105 := n1_; clear n0_ n1_; (try clear hb); (try clear hb2); (try clear hk); (try clear hi)))
            go_ret
            exact ⟨by first | rfl | (simp [errW_none, errW_some] <;> rfl) | (simp [*, errW_none, errW_some] <;> rfl), by repeat (first | (with_reducible first | exact HB.out | apply below_alloc | apply pw_below_drewN | apply below_drew1 | refine below_set ?_ (IsS42.ge HI105.out)) | exact HB.out)⟩
        · rw [if_neg c14] at H
          have c14b0 : (t112 == 1) = false := beq_eq_false_iff_ne.mpr c14
          have c14b1 : (t112 != 1) = true := bne_iff_ne.mpr c14
          obtain rfl := Option.some.inj H
          go_enter Try.func8, Try.ntmps8
          go_wp2_with (first | ((with_reducible refine gate_callee (f := 9) rfl ?_); refine goesL_ (some 6) rfl rfl Try.func9 (by kernel_rfl) rfl #[.int .i64 65535] rfl (by (try simp only [List.map_toArray, List.map_cons, List.map_nil]); first | done | rfl | (simp only [List.length_drop, List.length_take]; rfl)) ?_; (with_reducible refine (window_New.calls 65535 t104 w _ ?side1 A1.out).mono ?_); (case side1 => repeat (first | (with_reducible first | exact HB.out | apply below_alloc | apply pw_below_drewN | apply below_drew1) | exact HB.out)); rintro e w31 ⟨g105, rfl, hi, hb, hb2⟩; refine ⟨_, rfl, ?_⟩; have n0_ := Aside0.mk (hb); have n1_ := Aside0.mk (hi); clear HB; have HB := n0_; have HI105 := n1_; clear n0_ n1_; (try clear hb); (try clear hb2); (try clear hk); (try clear hi)) | ((with_reducible refine gate_callee (f := 16) rfl ?_); refine goesL_ (some 10) rfl rfl Try.func16 (by kernel_rfl) rfl #[.pointer (some ⟨g105, 0, none⟩), .int .i64 65536] rfl (by (try simp only [List.map_toArray, List.map_cons, List.map_nil]); first | done | rfl | (simp only [List.length_drop, List.length_take]; rfl)) ?_; (with_reducible refine (window_Window_Take.calls g105 t104 65536 false t107 w _ ?side1 ?side2 A2.out).mono ?_); (case side1 => repeat (first | (with_reducible first | exact HI105.out | apply IsS42.alloc | apply IsS42.drewN | apply IsS42.drew | apply IsS42.set_0) | exact HI105.out)); (case side2 => repeat (first | (with_reducible first | exact HB.out | apply below_alloc | apply pw_below_drewN | apply below_drew1 | refine below_set ?_ (IsS42.ge HI105.out)) | exact HB.out)); rintro e w32 ⟨rfl, hi, hb, hk⟩; refine ⟨_, rfl, ?_⟩; have n0_ := Aside0.mk (hb); have n1_ := Aside0.mk (hi); clear HB; clear HI105; have HB := n0_; have HI105 := n1_; clear n0_ n1_; (try clear hb); (try clear hb2); (try clear hk); (try clear hi)) | ((with_reducible refine gate_callee (f := 16) rfl ?_); refine goesL_ (some 12) rfl rfl Try.func16 (by kernel_rfl) rfl #[.pointer (some ⟨g105, 0, none⟩), .int .i64 65535] rfl (by (try simp only [List.map_toArray, List.map_cons, List.map_nil]); first | done | rfl | (simp only [List.length_drop, List.length_take]; rfl)) ?_; (with_reducible refine (window_Window_Take.calls g105 t107 65535 true t109 w _ ?side1 ?side2 A3.out).mono ?_); (case side1 => repeat (first | (with_reducible first | exact HI105.out | apply IsS42.alloc | apply IsS42.drewN | apply IsS42.drew | apply IsS42.set_0) | exact HI105.out)); (case side2 => repeat (first | (with_reducible first | exact HB.out | apply below_alloc | apply pw_below_drewN | apply below_drew1 | refine below_set ?_ (IsS42.ge HI105.out)) | exact HB.out)); rintro e w33 ⟨rfl, hi, hb, hk⟩; refine ⟨_, rfl, ?_⟩; have n0_ := Aside0.mk (hb); have n1_ := Aside0.mk (hi); clear HB; clear HI105; have HB := n0_; have HI105 := n1_; clear n0_ n1_; (try clear hb); (try clear hb2); (try clear hk); (try clear hi)) | ((with_reducible refine gate_callee (f := 18) rfl ?_); refine goesL_ (some 14) rfl rfl Try.func18 (by kernel_rfl) rfl #[.pointer (some ⟨g105, 0, none⟩), .int .i64 (-5)] rfl (by (try simp only [List.map_toArray, List.map_cons, List.map_nil]); first | done | rfl | (simp only [List.length_drop, List.length_take]; rfl)) ?_; (with_reducible refine (window_Window_Shift.calls g105 t109 (-5) t110 t111 w _ ?side1 ?side2 A4.out).mono ?_); (case side1 => repeat (first | (with_reducible first | exact HI105.out | apply IsS42.alloc | apply IsS42.drewN | apply IsS42.drew | apply IsS42.set_0) | exact HI105.out)); (case side2 => repeat (first | (with_reducible first | exact HB.out | apply below_alloc | apply pw_below_drewN | apply below_drew1 | refine below_set ?_ (IsS42.ge HI105.out)) | exact HB.out)); rintro e w34 ⟨rfl, hi, hb, hk⟩; refine ⟨_, rfl, ?_⟩; have n0_ := Aside0.mk (hb); have n1_ := Aside0.mk (hi); clear HB; clear HI105; have HB := n0_; have HI105 := n1_; clear n0_ n1_; (try clear hb); (try clear hb2); (try clear hk); (try clear hi)) | ((with_reducible refine gate_callee (f := 17) rfl ?_); refine goesL_ (some 16) rfl rfl Try.func17 (by kernel_rfl) rfl #[.pointer (some ⟨g105, 0, none⟩), .int .i64 0] rfl (by (try simp only [List.map_toArray, List.map_cons, List.map_nil]); first | done | rfl | (simp only [List.length_drop, List.length_take]; rfl)) ?_; (with_reducible refine (window_Window_Give.calls g105 t111 0 t112 t113 w _ ?side1 ?side2 A5.out).mono ?_); (case side1 => repeat (first | (with_reducible first | exact HI105.out | apply IsS42.alloc | apply IsS42.drewN | apply IsS42.drew | apply IsS42.set_0) | exact HI105.out)); (case side2 => repeat (first | (with_reducible first | exact HB.out | apply below_alloc | apply pw_below_drewN | apply below_drew1 | refine below_set ?_ (IsS42.ge HI105.out)) | exact HB.out)); rintro e w35 ⟨rfl, hi, hb, hk⟩; refine ⟨_, rfl, ?_⟩; have n0_ := Aside0.mk (hb); have n1_ := Aside0.mk (hi); clear HB; clear HI105; have HB := n0_; have HI105 := n1_; clear n0_ n1_; (try clear hb); (try clear hb2); (try clear hk); (try clear hi)))
          go_ret
          exact ⟨by first | rfl | (simp [errW_none, errW_some] <;> rfl) | (simp [*, errW_none, errW_some] <;> rfl), by repeat (first | (with_reducible first | exact HB.out | apply below_alloc | apply pw_below_drewN | apply below_drew1 | refine below_set ?_ (IsS42.ge HI105.out)) | exact HB.out)⟩
      · rw [if_neg c13] at H
        have c13b0 : (t110 == 0) = false := beq_eq_false_iff_ne.mpr c13
        have c13b1 : (t110 != 0) = true := bne_iff_ne.mpr c13
        obtain rfl := Option.some.inj H
        go_enter Try.func8, Try.ntmps8
        go_wp2_with (first | ((with_reducible refine gate_callee (f := 9) rfl ?_); refine goesL_ (some 6) rfl rfl Try.func9 (by kernel_rfl) rfl #[.int .i64 65535] rfl (by (try simp only [List.map_toArray, List.map_cons, List.map_nil]); first | done | rfl | (simp only [List.length_drop, List.length_take]; rfl)) ?_; (with_reducible refine (window_New.calls 65535 t104 w _ ?side1 A1.out).mono ?_); (case side1 => repeat (first | (with_reducible first | exact HB.out | apply below_alloc | apply pw_below_drewN | apply below_drew1) | exact HB.out)); rintro e w36 ⟨g105, rfl, hi, hb, hb2⟩; refine ⟨_, rfl, ?_⟩; have n0_ := Aside0.mk (hb); have n1_ := Aside0.mk (hi); clear HB; have HB := n0_; have HI105 := n1_; clear n0_ n1_; (try clear hb); (try clear hb2); (try clear hk); (try clear hi)) | ((with_reducible refine gate_callee (f := 16) rfl ?_); refine goesL_ (some 10) rfl rfl Try.func16 (by kernel_rfl) rfl #[.pointer (some ⟨g105, 0, none⟩), .int .i64 65536] rfl (by (try simp only [List.map_toArray, List.map_cons, List.map_nil]); first | done | rfl | (simp only [List.length_drop, List.length_take]; rfl)) ?_; (with_reducible refine (window_Window_Take.calls g105 t104 65536 false t107 w _ ?side1 ?side2 A2.out).mono ?_); (case side1 => repeat (first | (with_reducible first | exact HI105.out | apply IsS42.alloc | apply IsS42.drewN | apply IsS42.drew | apply IsS42.set_0) | exact HI105.out)); (case side2 => repeat (first | (with_reducible first | exact HB.out | apply below_alloc | apply pw_below_drewN | apply below_drew1 | refine below_set ?_ (IsS42.ge HI105.out)) | exact HB.out)); rintro e w37 ⟨rfl, hi, hb, hk⟩; refine ⟨_, rfl, ?_⟩; have n0_ := Aside0.mk (hb); have n1_ := Aside0.mk (hi); clear HB; clear HI105; have HB := n0_; have HI105 := n1_; clear n0_ n1_; (try clear hb); (try clear hb2); (try clear hk); (try clear hi)) | ((with_reducible refine gate_callee (f := 16) rfl ?_); refine goesL_ (some 12) rfl rfl Try.func16 (by kernel_rfl) rfl #[.pointer (some ⟨g105, 0, none⟩), .int .i64 65535] rfl (by (try simp only [List.map_toArray, List.map_cons, List.map_nil]); first | done | rfl | (simp only [List.length_drop, List.length_take]; rfl)) ?_; (with_reducible refine (window_Window_Take.calls g105 t107 65535 true t109 w _ ?side1 ?side2 A3.out).mono ?_); (case side1 => repeat (first | (with_reducible first | exact HI105.out | apply IsS42.alloc | apply IsS42.drewN | apply IsS42.drew | apply IsS42.set_0) | exact HI105.out)); (case side2 => repeat (first | (with_reducible first | exact HB.out | apply below_alloc | apply pw_below_drewN | apply below_drew1 | refine below_set ?_ (IsS42.ge HI105.out)) | exact HB.out)); rintro e w38 ⟨rfl, hi, hb, hk⟩; refine ⟨_, rfl, ?_⟩; have n0_ := Aside0.mk (hb); have n1_ := Aside0.mk (hi); clear HB; clear HI105; have HB := n0_; have HI105 := n1_; clear n0_ n1_; (try clear hb); (try clear hb2); (try clear hk); (try clear hi)) | ((with_reducible refine gate_callee (f := 18) rfl ?_); refine goesL_ (some 14) rfl rfl Try.func18 (by kernel_rfl) rfl #[.pointer (some ⟨g105, 0, none⟩), .int .i64 (-5)] rfl (by (try simp only [List.map_toArray, List.map_cons, List.map_nil]); first | done | rfl | (simp only [List.length_drop, List.length_take]; rfl)) ?_; (with_reducible refine (window_Window_Shift.calls g105 t109 (-5) t110 t111 w _ ?side1 ?side2 A4.out).mono ?_); (case side1 => repeat (first | (with_reducible first | exact HI105.out | apply IsS42.alloc | apply IsS42.drewN | apply IsS42.drew | apply IsS42.set_0) | exact HI105.out)); (case side2 => repeat (first | (with_reducible first | exact HB.out | apply below_alloc | apply pw_below_drewN | apply below_drew1 | refine below_set ?_ (IsS42.ge HI105.out)) | exact HB.out)); rintro e w39 ⟨rfl, hi, hb, hk⟩; refine ⟨_, rfl, ?_⟩; have n0_ := Aside0.mk (hb); have n1_ := Aside0.mk (hi); clear HB; clear HI105; have HB := n0_; have HI105 := n1_; clear n0_ n1_; (try clear hb); (try clear hb2); (try clear hk); (try clear hi)) | ((with_reducible refine gate_callee (f := 17) rfl ?_); refine goesL_ (some 16) rfl rfl Try.func17 (by kernel_rfl) rfl #[.pointer (some ⟨g105, 0, none⟩), .int .i64 0] rfl (by (try simp only [List.map_toArray, List.map_cons, List.map_nil]); first | done | rfl | (simp only [List.length_drop, List.length_take]; rfl)) ?_; (with_reducible refine (window_Window_Give.calls g105 t111 0 t112 t113 w _ ?side1 ?side2 A5.out).mono ?_); (case side1 => repeat (first | (with_reducible first | exact HI105.out | apply IsS42.alloc | apply IsS42.drewN | apply IsS42.drew | apply IsS42.set_0) | exact HI105.out)); (case side2 => repeat (first | (with_reducible first | exact HB.out | apply below_alloc | apply pw_below_drewN | apply below_drew1 | refine below_set ?_ (IsS42.ge HI105.out)) | exact HB.out)); rintro e w40 ⟨rfl, hi, hb, hk⟩; refine ⟨_, rfl, ?_⟩; have n0_ := Aside0.mk (hb); have n1_ := Aside0.mk (hi); clear HB; clear HI105; have HB := n0_; have HI105 := n1_; clear n0_ n1_; (try clear hb); (try clear hb2); (try clear hk); (try clear hi)))
        go_ret
        exact ⟨by first | rfl | (simp [errW_none, errW_some] <;> rfl) | (simp [*, errW_none, errW_some] <;> rfl), by repeat (first | (with_reducible first | exact HB.out | apply below_alloc | apply pw_below_drewN | apply below_drew1 | refine below_set ?_ (IsS42.ge HI105.out)) | exact HB.out)⟩
    · replace c12 := Bool.eq_false_iff.mpr c12
      subst c12
      have H1 : (some false) = some r := by rw [if_neg (show ¬ (false = true) by decide)] at H; exact H
      clear H
      have H := H1
      clear H1
      obtain rfl := Option.some.inj H
      go_enter Try.func8, Try.ntmps8
      go_wp2_with (first | ((with_reducible refine gate_callee (f := 9) rfl ?_); refine goesL_ (some 6) rfl rfl Try.func9 (by kernel_rfl) rfl #[.int .i64 65535] rfl (by (try simp only [List.map_toArray, List.map_cons, List.map_nil]); first | done | rfl | (simp only [List.length_drop, List.length_take]; rfl)) ?_; (with_reducible refine (window_New.calls 65535 t104 w _ ?side1 A1.out).mono ?_); (case side1 => repeat (first | (with_reducible first | exact HB.out | apply below_alloc | apply pw_below_drewN | apply below_drew1) | exact HB.out)); rintro e w41 ⟨g105, rfl, hi, hb, hb2⟩; refine ⟨_, rfl, ?_⟩; have n0_ := Aside0.mk (hb); have n1_ := Aside0.mk (hi); clear HB; have HB := n0_; have HI105 := n1_; clear n0_ n1_; (try clear hb); (try clear hb2); (try clear hk); (try clear hi)) | ((with_reducible refine gate_callee (f := 16) rfl ?_); refine goesL_ (some 10) rfl rfl Try.func16 (by kernel_rfl) rfl #[.pointer (some ⟨g105, 0, none⟩), .int .i64 65536] rfl (by (try simp only [List.map_toArray, List.map_cons, List.map_nil]); first | done | rfl | (simp only [List.length_drop, List.length_take]; rfl)) ?_; (with_reducible refine (window_Window_Take.calls g105 t104 65536 false t107 w _ ?side1 ?side2 A2.out).mono ?_); (case side1 => repeat (first | (with_reducible first | exact HI105.out | apply IsS42.alloc | apply IsS42.drewN | apply IsS42.drew | apply IsS42.set_0) | exact HI105.out)); (case side2 => repeat (first | (with_reducible first | exact HB.out | apply below_alloc | apply pw_below_drewN | apply below_drew1 | refine below_set ?_ (IsS42.ge HI105.out)) | exact HB.out)); rintro e w42 ⟨rfl, hi, hb, hk⟩; refine ⟨_, rfl, ?_⟩; have n0_ := Aside0.mk (hb); have n1_ := Aside0.mk (hi); clear HB; clear HI105; have HB := n0_; have HI105 := n1_; clear n0_ n1_; (try clear hb); (try clear hb2); (try clear hk); (try clear hi)) | ((with_reducible refine gate_callee (f := 16) rfl ?_); refine goesL_ (some 12) rfl rfl Try.func16 (by kernel_rfl) rfl #[.pointer (some ⟨g105, 0, none⟩), .int .i64 65535] rfl (by (try simp only [List.map_toArray, List.map_cons, List.map_nil]); first | done | rfl | (simp only [List.length_drop, List.length_take]; rfl)) ?_; (with_reducible refine (window_Window_Take.calls g105 t107 65535 false t109 w _ ?side1 ?side2 A3.out).mono ?_); (case side1 => repeat (first | (with_reducible first | exact HI105.out | apply IsS42.alloc | apply IsS42.drewN | apply IsS42.drew | apply IsS42.set_0) | exact HI105.out)); (case side2 => repeat (first | (with_reducible first | exact HB.out | apply below_alloc | apply pw_below_drewN | apply below_drew1 | refine below_set ?_ (IsS42.ge HI105.out)) | exact HB.out)); rintro e w43 ⟨rfl, hi, hb, hk⟩; refine ⟨_, rfl, ?_⟩; have n0_ := Aside0.mk (hb); have n1_ := Aside0.mk (hi); clear HB; clear HI105; have HB := n0_; have HI105 := n1_; clear n0_ n1_; (try clear hb); (try clear hb2); (try clear hk); (try clear hi)) | ((with_reducible refine gate_callee (f := 18) rfl ?_); refine goesL_ (some 14) rfl rfl Try.func18 (by kernel_rfl) rfl #[.pointer (some ⟨g105, 0, none⟩), .int .i64 (-5)] rfl (by (try simp only [List.map_toArray, List.map_cons, List.map_nil]); first | done | rfl | (simp only [List.length_drop, List.length_take]; rfl)) ?_; (with_reducible refine (window_Window_Shift.calls g105 t109 (-5) t110 t111 w _ ?side1 ?side2 A4.out).mono ?_); (case side1 => repeat (first | (with_reducible first | exact HI105.out | apply IsS42.alloc | apply IsS42.drewN | apply IsS42.drew | apply IsS42.set_0) | exact HI105.out)); (case side2 => repeat (first | (with_reducible first | exact HB.out | apply below_alloc | apply pw_below_drewN | apply below_drew1 | refine below_set ?_ (IsS42.ge HI105.out)) | exact HB.out)); rintro e w44 ⟨rfl, hi, hb, hk⟩; refine ⟨_, rfl, ?_⟩; have n0_ := Aside0.mk (hb); have n1_ := Aside0.mk (hi); clear HB; clear HI105; have HB := n0_; have HI105 := n1_; clear n0_ n1_; (try clear hb); (try clear hb2); (try clear hk); (try clear hi)) | ((with_reducible refine gate_callee (f := 17) rfl ?_); refine goesL_ (some 16) rfl rfl Try.func17 (by kernel_rfl) rfl #[.pointer (some ⟨g105, 0, none⟩), .int .i64 0] rfl (by (try simp only [List.map_toArray, List.map_cons, List.map_nil]); first | done | rfl | (simp only [List.length_drop, List.length_take]; rfl)) ?_; (with_reducible refine (window_Window_Give.calls g105 t111 0 t112 t113 w _ ?side1 ?side2 A5.out).mono ?_); (case side1 => repeat (first | (with_reducible first | exact HI105.out | apply IsS42.alloc | apply IsS42.drewN | apply IsS42.drew | apply IsS42.set_0) | exact HI105.out)); (case side2 => repeat (first | (with_reducible first | exact HB.out | apply below_alloc | apply pw_below_drewN | apply below_drew1 | refine below_set ?_ (IsS42.ge HI105.out)) | exact HB.out)); rintro e w45 ⟨rfl, hi, hb, hk⟩; refine ⟨_, rfl, ?_⟩; have n0_ := Aside0.mk (hb); have n1_ := Aside0.mk (hi); clear HB; clear HI105; have HB := n0_; have HI105 := n1_; clear n0_ n1_; (try clear hb); (try clear hb2); (try clear hk); (try clear hi)))
      go_ret
      exact ⟨by first | rfl | (simp [errW_none, errW_some] <;> rfl) | (simp [*, errW_none, errW_some] <;> rfl), by repeat (first | (with_reducible first | exact HB.out | apply below_alloc | apply pw_below_drewN | apply below_drew1 | refine below_set ?_ (IsS42.ge HI105.out)) | exact HB.out)⟩

end Go.Proofs.Ytbngliommdmnkaa.QWindowSums
