/- Both windows: what one call of plays leaves: the answers are one. No condition but that both are of one number, and room for one more move. -/
import Derived.Test.YtbngliommdmnkaaMRefW
namespace Go.Proofs.Ytbngliommdmnkaa.MW
open Go Go.RowKit Go.Proofs.YtbngliommdmnkaaW.PrintWords Go.Proofs.YtbngliommdmnkaaW.PrintLast
set_option linter.unusedSimpArgs false
set_option linter.unusedVariables false
def clamp (n : Int) : Int := if n < 0 then 0 else if n > 2147483647 then 2147483647 else n

set_option maxHeartbeats 2000000 in
theorem new_ref (w0 w : World) (n : Int) (hB : Below w0.heap.size w0 w) :
    Calls Try.prog 10 #[.int .i64 n] w fun e w' => ∃ g, e = .returned (.pointer (some ⟨g, 0, none⟩)) ∧ RefW w0.heap.size w' g (clamp n) (.slice none 0 0) [] ∧ Below w.heap.size w w' ∧ Below w0.heap.size w0 w' ∧ w.heap.size ≤ g := by
  have HB := Aside0.mk hB
  clear hB
  have fin : ∀ x, RefW w0.heap.size (w.alloc (.cells #[.int .i64 x, .slice none 0 0] 45)) w.heap.size x (.slice none 0 0) [] :=
    fun x => ⟨by simpa using blk_new w _, HB.out.size, own_nil _ _ _ _, by simp [Value.ownBlock]⟩
  have FIN := Aside0.mk fin
  clear fin
  by_cases c1 : n < 0
  · have d1 : decide (n < 0) = true := decide_eq_true c1
    rw [show clamp n = 0 from if_pos c1]
    clear c1
    go_enter Try.func10, Try.ntmps10
    go_wp2
    go_ret
    exact ⟨_, rfl, FIN.out 0, below_alloc (Below.refl _ _) _, HB.out.alloc HB.out.size _, Nat.le_refl _⟩
  · have d1 : decide (n < 0) = false := decide_eq_false c1
    by_cases c2 : n > 2147483647
    · have d2 : decide (2147483647 < n) = true := decide_eq_true c2
      rw [show clamp n = 2147483647 by unfold clamp; rw [if_neg c1, if_pos c2]]
      clear c1 c2
      go_enter Try.func10, Try.ntmps10
      go_wp2
      go_ret
      exact ⟨_, rfl, FIN.out _, below_alloc (Below.refl _ _) _, HB.out.alloc HB.out.size _, Nat.le_refl _⟩
    · have d2 : decide (2147483647 < n) = false := decide_eq_false c2
      rw [show clamp n = n by unfold clamp; rw [if_neg c1, if_neg c2]]
      clear c1 c2
      go_enter Try.func10, Try.ntmps10
      go_wp2
      go_ret
      exact ⟨_, rfl, FIN.out _, below_alloc (Below.refl _ _) _, HB.out.alloc HB.out.size _, Nat.le_refl _⟩
def InR (x : Int) : Prop := -2147483647 ≤ x ∧ x ≤ 2147483647
theorem take_pure (f : Int) (ms : List Int) (n : Int) (hr : InR (lsum f ms)) :
    Go.Proofs.Ytbngliommdmnkaa.QWindowSums.window_Window_Take.f (lsum f ms) n = some (takeF (lsum f ms) n, lsum f (takeM (lsum f ms) n ms)) ∧ InR (lsum f (takeM (lsum f ms) n ms)) ∧ (takeM (lsum f ms) n ms).length ≤ ms.length + 1 := by
  obtain ⟨h1, h2⟩ := hr
  unfold Go.Proofs.Ytbngliommdmnkaa.QWindowSums.window_Window_Take.f takeF takeM InR
  generalize hx : lsum f ms = x at *
  by_cases c0 : n < 0
  · rw [if_pos c0, if_pos (by omega), if_pos (by omega)]
    have : ¬ n = 0 := by omega
    simp [this, hx]; omega
  · by_cases c1 : n > 0
    · by_cases c2 : n > x
      · rw [if_neg c0, if_pos c1, if_pos c2, if_neg (by omega), if_neg (by omega), if_pos c2, hx]
        simp; omega
      · rw [if_neg c0, if_pos c1, if_neg c2, if_neg (by omega), if_neg (by omega), if_neg c2, lsum_snoc, hx]
        have e : wrap64 (x + wrap64 (-n)) = x - n := by unfold wrap64; omega
        have e2 : wrap64 (x - n) = x - n := by unfold wrap64; omega
        rw [e, e2]; simp; omega
    · have : n = 0 := by omega
      subst this
      have e2 : wrap64 x = x := by unfold wrap64; omega
      simp [e2, hx]; omega
theorem shift_pure (f : Int) (ms : List Int) (n : Int) (hr : InR (lsum f ms)) :
    Go.Proofs.Ytbngliommdmnkaa.QWindowSums.window_Window_Shift.f (lsum f ms) n = some (if shiftF (lsum f ms) n = true then 0 else 3, lsum f (shiftM (lsum f ms) n ms)) ∧ InR (lsum f (shiftM (lsum f ms) n ms)) ∧ (shiftM (lsum f ms) n ms).length ≤ ms.length + 1 := by
  obtain ⟨h1, h2⟩ := hr
  unfold Go.Proofs.Ytbngliommdmnkaa.QWindowSums.window_Window_Shift.f shiftM InR
  generalize hx : lsum f ms = x at *
  have a1 : wrap64 (2147483647 - x) = 2147483647 - x := by unfold wrap64; omega
  have a2 : wrap64 (-2147483647 - x) = -2147483647 - x := by unfold wrap64; omega
  rw [a1, a2]
  by_cases c : n > 2147483647 - x ∨ n < -2147483647 - x
  · have hs : ¬ shiftF x n = true := by
      unfold shiftF
      simp only [decide_eq_true_eq, not_and]
      intro d
      have a3 : wrap64 (n + x) = n + x := by unfold wrap64; omega
      rw [a3]; omega
    rw [if_neg hs, if_neg hs, hx]
    refine ⟨?_, ⟨h1, h2⟩, by omega⟩
    rcases c with c | c
    · rw [if_pos c]
    · by_cases c' : n > 2147483647 - x
      · rw [if_pos c']
      · rw [if_neg c', if_pos c]
  · have a3 : wrap64 (n + x) = n + x := by unfold wrap64; omega
    have a4 : wrap64 (x + n) = x + n := by unfold wrap64; omega
    have hs : shiftF x n = true := by
      unfold shiftF
      simp only [decide_eq_true_eq]
      rw [a3]; omega
    rw [if_pos hs, if_pos hs, if_neg (by omega), if_neg (by omega), lsum_snoc, hx, a4]
    simp; omega
theorem give_pure (f : Int) (ms : List Int) (n : Int) (hr : InR (lsum f ms)) :
    Go.Proofs.Ytbngliommdmnkaa.QWindowSums.window_Window_Give.f (lsum f ms) n = some (if n < 1 then 1 else if shiftF (lsum f ms) n = true then 0 else 3, lsum f (if n < 1 then ms else shiftM (lsum f ms) n ms)) ∧ InR (lsum f (if n < 1 then ms else shiftM (lsum f ms) n ms)) ∧ (if n < 1 then ms else shiftM (lsum f ms) n ms).length ≤ ms.length + 1 := by
  obtain ⟨e, e1, e2⟩ := shift_pure f ms n hr
  unfold Go.Proofs.Ytbngliommdmnkaa.QWindowSums.window_Window_Give.f
  by_cases c : n < 1
  · simp only [if_pos c]; exact ⟨by trivial, hr, by omega⟩
  · simp only [if_neg c]; rw [e]; exact ⟨rfl, e1, e2⟩
theorem new_pure (n : Int) : Go.Proofs.Ytbngliommdmnkaa.QWindowSums.window_New.f n = some (clamp n) ∧ InR (clamp n) := by
  unfold Go.Proofs.Ytbngliommdmnkaa.QWindowSums.window_New.f clamp InR mn mx
  refine ⟨by congr 1; (repeat' split) <;> omega, by (repeat' split) <;> omega, by (repeat' split) <;> omega⟩
/-- The window at c, the document's at d: both tell x. -/
structure Two (w0 W : World) (c d : Nat) (x : Int) (f : Int) (v : Value) (ms : List Int) : Prop where
  win : Go.Proofs.Ytbngliommdmnkaa.QWindowSums.IsS42 w0 W c x
  ref : RefW w0.heap.size W d f v ms
  eq : lsum f ms = x
  range : InR x

theorem IsS42_keep {w0 W W1 : World} {c g : Nat} {x : Int} {row : Option Nat} (h : Go.Proofs.Ytbngliommdmnkaa.QWindowSums.IsS42 w0 W c x) (k : KeepBut W W1 g row) (hg : c ≠ g) (hr : some c ≠ row) : Go.Proofs.Ytbngliommdmnkaa.QWindowSums.IsS42 w0 W1 c x :=
  ⟨k.blk h.1 hg hr, h.2⟩
theorem RefW_keep {B : Nat} {W W1 : World} {d g : Nat} {f : Int} {v : Value} {ms : List Int} {row : Option Nat} (h : RefW B W d f v ms) (k : KeepBut W W1 g row) (hg : d ≠ g) (hr : some d ≠ row) (hv : v.ownBlock ≠ some g) (hvr : v.ownBlock = none ∨ v.ownBlock ≠ row) : RefW B W1 d f v ms :=
  ⟨k.blk h.blk hg hr, h.ge, k.own h.row hv hvr, h.ne⟩
theorem Two.ne {w0 W : World} {c d : Nat} {x f : Int} {v : Value} {ms : List Int} (h : Two w0 W c d x f v ms) : c ≠ d := blk_ne h.win.1 h.ref.blk (by decide)
theorem Two.own {w0 W : World} {c d : Nat} {x f : Int} {v : Value} {ms : List Int} (h : Two w0 W c d x f v ms) : some c ≠ v.ownBlock := own_ne h.ref.row h.win.1 (by decide)

/-- What a call on both leaves. -/
def TStep (w0 w w' : World) (c d : Nat) (f : Int) (v : Value) (n : Nat) : Prop :=
  ∃ x' v' ms', Two w0 w' c d x' f v' ms' ∧ ms'.length ≤ n + 1 ∧ Below w0.heap.size w0 w' ∧ Kept w w' (fun k => k = c ∨ k = d ∨ some k = v.ownBlock) ∧ (v'.ownBlock = v.ownBlock ∨ ∃ b, v'.ownBlock = some b ∧ w.heap.size ≤ b)

theorem two_step {w0 w w1 w2 w3 : World} {c d : Nat} {x x' f : Int} {v : Value} {ms ms' : List Int} (h : Two w0 w c d x f v ms) (hb : Below w.heap.size w w1) (hw : Go.Proofs.Ytbngliommdmnkaa.QWindowSums.IsS42 w0 w2 c x') (k : KeepBut w1 w2 c none)
    (hr : RStep w0 w2 w3 d f v ms') (he : lsum f ms' = x') (hx : InR x') (hl : ms'.length ≤ ms.length + 1) : TStep w0 w w3 c d f v ms.length := by
  obtain ⟨v', r1, r2, r3, r4⟩ := hr
  have s1 := hb.size
  have s2 := k.1
  refine ⟨x', v', ms', ⟨IsS42_keep hw r2 h.ne h.own, r1, he, hx⟩, hl, r3, ⟨by have := r2.1; omega, ?_⟩, ?_⟩
  · intro i hi hn
    have n1 : i ≠ c := fun e => hn (.inl e)
    have n2 : i ≠ d := fun e => hn (.inr (.inl e))
    have n3 : some i ≠ v.ownBlock := fun e => hn (.inr (.inr e))
    rw [r2.2 i (by omega) n2 n3, k.2 i (by omega) n1 (by simp), hb.block i hi]
  · rcases r4 with r4 | ⟨b, r4, r5⟩
    · exact .inl r4
    · exact .inr ⟨b, r4, by omega⟩

/-- Just before the document's call: its window as it was. -/
theorem ref_at {w0 w w1 w2 : World} {c d : Nat} {x f : Int} {v : Value} {ms : List Int} (h : Two w0 w c d x f v ms) (hb : Below w.heap.size w w1) (k : KeepBut w1 w2 c none) : RefW w0.heap.size w2 d f v ms := by
  have h1 : RefW w0.heap.size w1 d f v ms := RefW_keep h.ref (KeepBut.of_below hb w.heap.size none) (by have := blk_lt h.ref.blk; omega) (by simp) (by intro e; have := own_lt h.ref.row _ e; omega) (by cases e : v.ownBlock <;> simp)
  exact RefW_keep h1 k (fun e => h.ne e.symm) (by simp) (fun e => h.own e.symm) (by cases e : v.ownBlock <;> simp)

set_option maxHeartbeats 4000000 in
theorem plays1 (w0 w : World) (c d : Nat) (x f : Int) (v : Value) (ms : List Int) (W n : Int) (h : Two w0 w c d x f v ms) (hB : Below w0.heap.size w0 w) (hl : (ms.length + 1) * 8 ≤ 140737488355328) :
    Calls Try.prog 11 #[.pointer (some ⟨c, 0, none⟩), .pointer (some ⟨d, 0, none⟩), .agg #[.int .i64 1, .int .i64 W, .int .i64 n]] w fun e w' => e = .returned (.bool true) ∧ TStep w0 w w' c d f v ms.length := by
  have HT := Aside0.mk h
  have HB := Aside0.mk hB
  have HL := Aside0.mk hl
  have hlt : c < w.heap.size := blk_lt h.win.1
  have hx := h.eq
  have hr := h.range
  clear h hB hl
  subst hx
  have HP := Aside0.mk (take_pure f ms n hr)
  clear hr
  go_enter Try.func11, Try.ntmps11
  go_wp2_with (first
    | (go_at_call 16; refine (Go.Proofs.Ytbngliommdmnkaa.QWindowSums.window_Window_Take.calls c (lsum f ms) n _ _ w0 _ (HT.out.win.alloc _) (HB.out.alloc HB.out.size _) HP.out.1).mono ?_; rintro e w' ⟨rfl, i, b, k⟩; have bb := k.blk (blk_new w _) (by omega) (by simp); have t0 := blk_cell bb 0; have t1 := blk_cell bb 1; have t2 := blk_cell bb 2; have HI := Aside0.mk i; have HB2 := Aside0.mk b; have HK := Aside0.mk k; clear i b k bb)
    | (go_at_call 19; refine (take_ref w0 _ d f v ms n (ref_at HT.out (below_alloc (Below.refl _ _) _) HK.out) HB2.out HL.out).mono ?_; rintro e w' ⟨rfl, q⟩; have HQ := Aside0.mk q; clear q))
  all_goals (
   go_ret
   exact ⟨by simp [results, go_sem], two_step HT.out (below_alloc (Below.refl _ _) _) HI.out HK.out HQ.out rfl HP.out.2.1 HP.out.2.2⟩)

set_option maxHeartbeats 4000000 in
theorem plays2 (w0 w : World) (c d : Nat) (x f : Int) (v : Value) (ms : List Int) (W n : Int) (h : Two w0 w c d x f v ms) (hB : Below w0.heap.size w0 w) (hl : (ms.length + 1) * 8 ≤ 140737488355328) :
    Calls Try.prog 11 #[.pointer (some ⟨c, 0, none⟩), .pointer (some ⟨d, 0, none⟩), .agg #[.int .i64 2, .int .i64 W, .int .i64 n]] w fun e w' => e = .returned (.bool true) ∧ TStep w0 w w' c d f v ms.length := by
  have HT := Aside0.mk h
  have HB := Aside0.mk hB
  have HL := Aside0.mk hl
  have hlt : c < w.heap.size := blk_lt h.win.1
  have hx := h.eq
  have hr := h.range
  clear h hB hl
  subst hx
  have HP := Aside0.mk (give_pure f ms n hr)
  clear hr
  go_enter Try.func11, Try.ntmps11
  go_wp2_with (first
    | (go_at_call 17; refine (Go.Proofs.Ytbngliommdmnkaa.QWindowSums.window_Window_Give.calls c (lsum f ms) n _ _ w0 _ (HT.out.win.alloc _) (HB.out.alloc HB.out.size _) HP.out.1).mono ?_; rintro e w' ⟨rfl, i, b, k⟩; have bb := k.blk (blk_new w _) (by omega) (by simp); have t0 := blk_cell bb 0; have t1 := blk_cell bb 1; have t2 := blk_cell bb 2; have HI := Aside0.mk i; have HB2 := Aside0.mk b; have HK := Aside0.mk k; clear i b k bb)
    | (go_at_call 20; refine (give_ref w0 _ d f v ms n (ref_at HT.out (below_alloc (Below.refl _ _) _) HK.out) HB2.out HL.out).mono ?_; rintro e w' ⟨rfl, q⟩; have HQ := Aside0.mk q; clear q))
  all_goals (
   go_ret
   exact ⟨by simp [results, go_sem], two_step HT.out (below_alloc (Below.refl _ _) _) HI.out HK.out HQ.out rfl HP.out.2.1 HP.out.2.2⟩)

set_option maxHeartbeats 4000000 in
theorem plays3 (w0 w : World) (c d : Nat) (x f : Int) (v : Value) (ms : List Int) (W n : Int) (h : Two w0 w c d x f v ms) (hB : Below w0.heap.size w0 w) (hl : (ms.length + 1) * 8 ≤ 140737488355328) :
    Calls Try.prog 11 #[.pointer (some ⟨c, 0, none⟩), .pointer (some ⟨d, 0, none⟩), .agg #[.int .i64 3, .int .i64 W, .int .i64 n]] w fun e w' => e = .returned (.bool true) ∧ TStep w0 w w' c d f v ms.length := by
  have HT := Aside0.mk h
  have HB := Aside0.mk hB
  have HL := Aside0.mk hl
  have hlt : c < w.heap.size := blk_lt h.win.1
  have hx := h.eq
  have hr := h.range
  clear h hB hl
  subst hx
  have HP := Aside0.mk (shift_pure f ms n hr)
  clear hr
  go_enter Try.func11, Try.ntmps11
  go_wp2_with (first
    | (go_at_call 18; refine (Go.Proofs.Ytbngliommdmnkaa.QWindowSums.window_Window_Shift.calls c (lsum f ms) n _ _ w0 _ (HT.out.win.alloc _) (HB.out.alloc HB.out.size _) HP.out.1).mono ?_; rintro e w' ⟨rfl, i, b, k⟩; have bb := k.blk (blk_new w _) (by omega) (by simp); have t0 := blk_cell bb 0; have t1 := blk_cell bb 1; have t2 := blk_cell bb 2; have HI := Aside0.mk i; have HB2 := Aside0.mk b; have HK := Aside0.mk k; clear i b k bb)
    | (go_at_call 21; refine (shift_ref w0 _ d f v ms n (ref_at HT.out (below_alloc (Below.refl _ _) _) HK.out) HB2.out HL.out).mono ?_; rintro e w' ⟨rfl, q⟩; have HQ := Aside0.mk q; clear q))
  all_goals (
   go_ret
   exact ⟨by simp [results, go_sem], two_step HT.out (below_alloc (Below.refl _ _) _) HI.out HK.out HQ.out rfl HP.out.2.1 HP.out.2.2⟩)

theorem left_win (w0 w : World) (c : Nat) (x : Int) (h : Go.Proofs.Ytbngliommdmnkaa.QWindowSums.IsS42 w0 w c x) :
    Calls Try.prog 12 #[.pointer (some ⟨c, 0, none⟩)] w fun e w' => e = .returned (.int .i64 x) ∧ w = w' := by
  have hc := blk_cell h.1 0
  have hf := blk_frozen h.1 0
  clear h
  go_enter Try.func12, Try.ntmps12
  go_wp2
  go_ret
  exact ⟨rfl, rfl⟩

theorem two_same {w0 w w1 : World} {c d : Nat} {x f : Int} {v : Value} {ms : List Int} (h : Two w0 w c d x f v ms) (hB : Below w0.heap.size w0 w) (hb : Below w.heap.size w w1) : TStep w0 w w1 c d f v ms.length :=
  ⟨x, v, ms, ⟨h.win.below hb, ref_at h hb (KeepBut.refl _ _ _), h.eq, h.range⟩, by omega, below_then hB hB.size hb, Kept.of_below hb _, .inl rfl⟩

set_option maxHeartbeats 4000000 in
theorem plays_other (w0 w : World) (c d : Nat) (x f : Int) (v : Value) (ms : List Int) (kind W n : Int) (h : Two w0 w c d x f v ms) (hB : Below w0.heap.size w0 w) (h1 : kind ≠ 1) (h2 : kind ≠ 2) (h3 : kind ≠ 3) :
    Calls Try.prog 11 #[.pointer (some ⟨c, 0, none⟩), .pointer (some ⟨d, 0, none⟩), .agg #[.int .i64 kind, .int .i64 W, .int .i64 n]] w fun e w' => e = .returned (.bool true) ∧ TStep w0 w w' c d f v ms.length := by
  have HT := Aside0.mk h
  have HB := Aside0.mk hB
  have d1 : (kind == 1) = false := beq_eq_false_iff_ne.mpr h1
  have d2 : (kind == 2) = false := beq_eq_false_iff_ne.mpr h2
  have d3 : (kind == 3) = false := beq_eq_false_iff_ne.mpr h3
  clear h hB
  by_cases h4 : kind = 4
  · subst h4
    clear h1 h2 h3 d1 d2 d3
    go_enter Try.func11, Try.ntmps11
    go_wp2_with (first
      | (go_at_call 12; refine (left_win w0 _ c x (HT.out.win.alloc _)).mono ?_; rintro e w' ⟨rfl, rfl⟩)
      | (go_at_call 13; refine (left_ref w0.heap.size _ d f v ms (ref_at HT.out (below_alloc (Below.refl _ _) _) (KeepBut.refl _ _ _))).mono ?_; rintro e w' ⟨rfl, rfl⟩; rw [HT.out.eq]))
    go_ret
    exact ⟨by simp [results, go_sem], two_same HT.out HB.out (below_alloc (Below.refl _ _) _)⟩
  · have d4 : (kind == 4) = false := beq_eq_false_iff_ne.mpr h4
    clear h1 h2 h3 h4
    go_enter Try.func11, Try.ntmps11
    go_wp2
    go_ret
    exact ⟨rfl, two_same HT.out HB.out (below_alloc (Below.refl _ _) _)⟩

theorem plays_two (w0 w : World) (c d : Nat) (x f : Int) (v : Value) (ms : List Int) (kind W n : Int) (h : Two w0 w c d x f v ms) (hB : Below w0.heap.size w0 w) (hl : (ms.length + 1) * 8 ≤ 140737488355328) :
    Calls Try.prog 11 #[.pointer (some ⟨c, 0, none⟩), .pointer (some ⟨d, 0, none⟩), .agg #[.int .i64 kind, .int .i64 W, .int .i64 n]] w fun e w' => e = .returned (.bool true) ∧ TStep w0 w w' c d f v ms.length := by
  by_cases h1 : kind = 1
  · subst h1; exact plays1 w0 w c d x f v ms W n h hB hl
  by_cases h2 : kind = 2
  · subst h2; exact plays2 w0 w c d x f v ms W n h hB hl
  by_cases h3 : kind = 3
  · subst h3; exact plays3 w0 w c d x f v ms W n h hB hl
  exact plays_other w0 w c d x f v ms kind W n h hB h1 h2 h3
end Go.Proofs.Ytbngliommdmnkaa.MW
