/- Two windows beside their two documents, in two arrays: what a call, a new window leave of all that. No condition but those in each statement. -/
import Derived.Test.YtbngliommdmnkaaMPlays
namespace Go.Proofs.Ytbngliommdmnkaa.MW
open Go Go.RowKit Go.Proofs.YtbngliommdmnkaaW.PrintWords Go.Proofs.YtbngliommdmnkaaW.PrintLast
set_option linter.unusedSimpArgs false
set_option linter.unusedVariables false
structure Inv (w0 W : World) (b7 b8 c0 c1 d0 d1 : Nat) (x0 x1 f0 f1 : Int) (v0 v1 : Value) (ms0 ms1 : List Int) (n : Nat) : Prop where
  a7 : W.heap[b7]? = some (.cells #[.pointer (some ⟨c0, 0, none⟩), .pointer (some ⟨c1, 0, none⟩)] 26 (0, 0))
  a8 : W.heap[b8]? = some (.cells #[.pointer (some ⟨d0, 0, none⟩), .pointer (some ⟨d1, 0, none⟩)] 29 (0, 0))
  g7 : w0.heap.size ≤ b7
  g8 : w0.heap.size ≤ b8
  t0 : Two w0 W c0 d0 x0 f0 v0 ms0
  t1 : Two w0 W c1 d1 x1 f1 v1 ms1
  nc : c0 ≠ c1
  nd : d0 ≠ d1
  nv : v0.ownBlock = none ∨ v0.ownBlock ≠ v1.ownBlock
  l0 : ms0.length ≤ n
  l1 : ms1.length ≤ n
  below : Below w0.heap.size w0 W
def Main (w0 W : World) (b7 b8 n : Nat) : Prop := ∃ c0 c1 d0 d1 x0 x1 f0 f1 v0 v1 ms0 ms1, Inv w0 W b7 b8 c0 c1 d0 d1 x0 x1 f0 f1 v0 v1 ms0 ms1 n

theorem Two.kept {w0 W W1 : World} {S : Nat → Prop} {c d : Nat} {x f : Int} {v : Value} {ms : List Int} (h : Two w0 W c d x f v ms) (k : Kept W W1 S) (hc : ¬ S c) (hd : ¬ S d) (hv : ∀ b, v.ownBlock = some b → ¬ S b) : Two w0 W1 c d x f v ms :=
  ⟨⟨blk_kept h.win.1 k hc, h.win.2⟩, ⟨blk_kept h.ref.blk k hd, h.ref.ge, own_move h.ref.row (fun b hb => k.2 b (own_lt h.ref.row b hb) (hv b hb)), h.ref.ne⟩, h.eq, h.range⟩
theorem Inv.kept {w0 W W1 : World} {b7 b8 c0 c1 d0 d1 : Nat} {x0 x1 f0 f1 : Int} {v0 v1 : Value} {ms0 ms1 : List Int} {n : Nat} (h : Inv w0 W b7 b8 c0 c1 d0 d1 x0 x1 f0 f1 v0 v1 ms0 ms1 n) (hb : Below W.heap.size W W1) : Inv w0 W1 b7 b8 c0 c1 d0 d1 x0 x1 f0 f1 v0 v1 ms0 ms1 n := by
  have k : Kept W W1 (fun _ => False) := Kept.of_below hb _
  exact ⟨blk_kept h.a7 k id, blk_kept h.a8 k id, h.g7, h.g8, h.t0.kept k id id (fun _ _ => id), h.t1.kept k id id (fun _ _ => id), h.nc, h.nd, h.nv, h.l0, h.l1, below_then h.below h.below.size hb⟩
theorem nv_of {w0 W : World} {v0 v1 v' : Value} {d : Nat} {f : Int} {ms : List Int} (h : RefW w0.heap.size W d f v1 ms) (hn : v0.ownBlock = none ∨ v0.ownBlock ≠ v1.ownBlock) (h' : v'.ownBlock = v0.ownBlock ∨ ∃ b, v'.ownBlock = some b ∧ W.heap.size ≤ b) : v'.ownBlock = none ∨ v'.ownBlock ≠ v1.ownBlock := by
  rcases h' with h' | ⟨b, h', h2⟩
  · rw [h']; exact hn
  · right; rw [h']; intro e; have := own_lt h.row b e.symm; omega
/-- A call on the first pair. -/
theorem Inv.play0 {w0 W W1 : World} {b7 b8 c0 c1 d0 d1 : Nat} {x0 x1 f0 f1 : Int} {v0 v1 : Value} {ms0 ms1 : List Int} {n : Nat} (h : Inv w0 W b7 b8 c0 c1 d0 d1 x0 x1 f0 f1 v0 v1 ms0 ms1 n) (hs : TStep w0 W W1 c0 d0 f0 v0 ms0.length) : ∃ x v ms, Inv w0 W1 b7 b8 c0 c1 d0 d1 x x1 f0 f1 v v1 ms ms1 (n + 1) := by
  obtain ⟨x, v, ms, t, hl, hB, hk, hv⟩ := hs
  have l0 := h.l0
  have l1 := h.l1
  have e1 : b7 ≠ c0 := blk_ne h.a7 h.t0.win.1 (by decide)
  have e2 : b7 ≠ d0 := blk_ne h.a7 h.t0.ref.blk (by decide)
  have e3 := own_ne h.t0.ref.row h.a7 (by decide)
  have e4 : b8 ≠ c0 := blk_ne h.a8 h.t0.win.1 (by decide)
  have e5 : b8 ≠ d0 := blk_ne h.a8 h.t0.ref.blk (by decide)
  have e6 := own_ne h.t0.ref.row h.a8 (by decide)
  have e7 : c1 ≠ d0 := blk_ne h.t1.win.1 h.t0.ref.blk (by decide)
  have e8 := own_ne h.t0.ref.row h.t1.win.1 (by decide)
  have e9 : d1 ≠ c0 := blk_ne h.t1.ref.blk h.t0.win.1 (by decide)
  have e10 := own_ne h.t0.ref.row h.t1.ref.blk (by decide)
  refine ⟨x, v, ms, blk_kept h.a7 hk (by rintro (e | e | e) <;> contradiction), blk_kept h.a8 hk (by rintro (e | e | e) <;> contradiction), h.g7, h.g8, t,
    h.t1.kept hk (by rintro (e | e | e) <;> first | contradiction | exact h.nc e.symm) (by rintro (e | e | e) <;> first | contradiction | exact h.nd e.symm) ?_, h.nc, h.nd, nv_of h.t1.ref h.nv hv, by omega, by omega, hB⟩
  intro b hb
  have f1 := own_ne h.t1.ref.row h.t0.win.1 (by decide)
  have f2 := own_ne h.t1.ref.row h.t0.ref.blk (by decide)
  rintro (e | e | e)
  · subst e; exact f1 hb.symm
  · subst e; exact f2 hb.symm
  · rcases h.nv with h0 | h0
    · rw [h0] at e; cases e
    · exact h0 (e.symm.trans hb.symm)
theorem nv_symm {v0 v1 : Value} (h : v0.ownBlock = none ∨ v0.ownBlock ≠ v1.ownBlock) : v1.ownBlock = none ∨ v1.ownBlock ≠ v0.ownBlock := by
  rcases h with h | h
  · cases e : v1.ownBlock
    · exact .inl rfl
    · right; rw [h]; simp
  · exact .inr (fun e => h e.symm)
/-- A call on the second pair. -/
theorem Inv.play1 {w0 W W1 : World} {b7 b8 c0 c1 d0 d1 : Nat} {x0 x1 f0 f1 : Int} {v0 v1 : Value} {ms0 ms1 : List Int} {n : Nat} (h : Inv w0 W b7 b8 c0 c1 d0 d1 x0 x1 f0 f1 v0 v1 ms0 ms1 n) (hs : TStep w0 W W1 c1 d1 f1 v1 ms1.length) : ∃ x v ms, Inv w0 W1 b7 b8 c0 c1 d0 d1 x0 x f0 f1 v0 v ms0 ms (n + 1) := by
  obtain ⟨x, v, ms, t, hl, hB, hk, hv⟩ := hs
  have l0 := h.l0
  have l1 := h.l1
  have e1 : b7 ≠ c1 := blk_ne h.a7 h.t1.win.1 (by decide)
  have e2 : b7 ≠ d1 := blk_ne h.a7 h.t1.ref.blk (by decide)
  have e3 := own_ne h.t1.ref.row h.a7 (by decide)
  have e4 : b8 ≠ c1 := blk_ne h.a8 h.t1.win.1 (by decide)
  have e5 : b8 ≠ d1 := blk_ne h.a8 h.t1.ref.blk (by decide)
  have e6 := own_ne h.t1.ref.row h.a8 (by decide)
  have e7 : c0 ≠ d1 := blk_ne h.t0.win.1 h.t1.ref.blk (by decide)
  have e8 := own_ne h.t1.ref.row h.t0.win.1 (by decide)
  have e9 : d0 ≠ c1 := blk_ne h.t0.ref.blk h.t1.win.1 (by decide)
  have e10 := own_ne h.t1.ref.row h.t0.ref.blk (by decide)
  have nc := h.nc
  have nd := h.nd
  refine ⟨x, v, ms, blk_kept h.a7 hk (by rintro (e | e | e) <;> contradiction), blk_kept h.a8 hk (by rintro (e | e | e) <;> contradiction), h.g7, h.g8,
    h.t0.kept hk (by rintro (e | e | e) <;> contradiction) (by rintro (e | e | e) <;> contradiction) ?_, t, h.nc, h.nd, nv_symm (nv_of h.t0.ref (nv_symm h.nv) hv), by omega, by omega, hB⟩
  intro b hb
  have f1 := own_ne h.t0.ref.row h.t1.win.1 (by decide)
  have f2 := own_ne h.t0.ref.row h.t1.ref.blk (by decide)
  rintro (e | e | e)
  · subst e; exact f1 hb.symm
  · subst e; exact f2 hb.symm
  · rcases h.nv with h0 | h0
    · rw [h0] at hb; cases hb
    · exact h0 (hb.trans e)

theorem Inv.new0 {w0 W W1 W2 : World} {b7 b8 c0 c1 d0 d1 c d : Nat} {x0 x1 f0 f1 y : Int} {v0 v1 : Value} {ms0 ms1 : List Int} {n : Nat} (h : Inv w0 W b7 b8 c0 c1 d0 d1 x0 x1 f0 f1 v0 v1 ms0 ms1 n)
    (hw : Go.Proofs.Ytbngliommdmnkaa.QWindowSums.IsS42 W W1 c y) (hB : Below W.heap.size W W1) (hr : RefW w0.heap.size W2 d y (.slice none 0 0) []) (hB2 : Below (W1.setCell ⟨b7, 0, none⟩ (.pointer (some ⟨c, 0, none⟩))).heap.size (W1.setCell ⟨b7, 0, none⟩ (.pointer (some ⟨c, 0, none⟩))) W2)
    (hd : (W1.setCell ⟨b7, 0, none⟩ (.pointer (some ⟨c, 0, none⟩))).heap.size ≤ d) (hy : InR y) : Main w0 (W2.setCell ⟨b8, 0, none⟩ (.pointer (some ⟨d, 0, none⟩))) b7 b8 n := by
  have k1 : Kept W W1 (fun _ => False) := Kept.of_below hB _
  have k : Kept W (W2.setCell ⟨b8, 0, none⟩ (.pointer (some ⟨d, 0, none⟩))) (fun k => k = b7 ∨ k = b8) := (((Kept.of_below hB _).setCell (.inl (.inl rfl)) _).below hB2).setCell (.inl (.inr rfl)) _
  have e78 : b7 ≠ b8 := blk_ne h.a7 h.a8 (by decide)
  have A7 := blk_far (blk_below (blk_set (blk_kept h.a7 k1 id) 0 (.pointer (some ⟨c, 0, none⟩))) hB2) (p := ⟨b8, 0, none⟩) e78 (.pointer (some ⟨d, 0, none⟩))
  have A8 := blk_set (blk_below (blk_far (blk_kept h.a8 k1 id) (p := ⟨b7, 0, none⟩) (fun e => e78 e.symm) (.pointer (some ⟨c, 0, none⟩))) hB2) 0 (.pointer (some ⟨d, 0, none⟩))
  have hsz : W1.heap.size ≤ (W1.setCell ⟨b7, 0, none⟩ (.pointer (some ⟨c, 0, none⟩))).heap.size := by simp
  have q7 : c ≠ b7 := blk_ne hw.1 (blk_kept h.a7 k1 id) (by decide)
  have q8 : c ≠ b8 := blk_ne hw.1 (blk_kept h.a8 k1 id) (by decide)
  have C := blk_far (blk_below (blk_far hw.1 (p := ⟨b7, 0, none⟩) q7 (.pointer (some ⟨c, 0, none⟩))) hB2) (p := ⟨b8, 0, none⟩) q8 (.pointer (some ⟨d, 0, none⟩))
  have p8 : d ≠ b8 := blk_ne hr.blk (blk_below (blk_far (blk_kept h.a8 k1 id) (p := ⟨b7, 0, none⟩) (fun e => e78 e.symm) (.pointer (some ⟨c, 0, none⟩))) hB2) (by decide)
  have D := blk_far hr.blk (p := ⟨b8, 0, none⟩) p8 (.pointer (some ⟨d, 0, none⟩))
  have s1 := hB.size
  have cl := blk_lt h.t1.win.1
  have dl := blk_lt h.t1.ref.blk
  have cg := hw.2
  have g0 := h.below.size
  have tn : Two w0 (W2.setCell ⟨b8, 0, none⟩ (.pointer (some ⟨d, 0, none⟩))) c d y y (.slice none 0 0) [] := ⟨⟨C, by omega⟩, ⟨D, hr.ge, own_nil _ _ _ _, by simp [Value.ownBlock]⟩, rfl, hy⟩
  have tt : Two w0 (W2.setCell ⟨b8, 0, none⟩ (.pointer (some ⟨d, 0, none⟩))) c1 d1 x1 f1 v1 ms1 := h.t1.kept k
    (by rintro (e | e); exact blk_ne h.t1.win.1 h.a7 (by decide) e; exact blk_ne h.t1.win.1 h.a8 (by decide) e)
    (by rintro (e | e); exact blk_ne h.t1.ref.blk h.a7 (by decide) e; exact blk_ne h.t1.ref.blk h.a8 (by decide) e)
    (by intro b hb; rintro (e | e); subst e; exact own_ne h.t1.ref.row h.a7 (by decide) hb.symm; subst e; exact own_ne h.t1.ref.row h.a8 (by decide) hb.symm)
  have hlow : Below w0.heap.size w0 (W2.setCell ⟨b8, 0, none⟩ (.pointer (some ⟨d, 0, none⟩))) :=
    (below_then ((below_then h.below h.below.size hB).setCell h.g7 _) (by omega) hB2).setCell h.g8 _
  exact ⟨c, c1, d, d1, y, x1, y, f1, .slice none 0 0, v1, [], ms1, by simpa using A7, by simpa using A8, h.g7, h.g8, tn, tt, by omega, by omega, .inl (by simp [Value.ownBlock]), by simp, h.l1, hlow⟩

theorem Inv.new1 {w0 W W1 W2 : World} {b7 b8 c0 c1 d0 d1 c d : Nat} {x0 x1 f0 f1 y : Int} {v0 v1 : Value} {ms0 ms1 : List Int} {n : Nat} (h : Inv w0 W b7 b8 c0 c1 d0 d1 x0 x1 f0 f1 v0 v1 ms0 ms1 n)
    (hw : Go.Proofs.Ytbngliommdmnkaa.QWindowSums.IsS42 W W1 c y) (hB : Below W.heap.size W W1) (hr : RefW w0.heap.size W2 d y (.slice none 0 0) []) (hB2 : Below (W1.setCell ⟨b7, 1, none⟩ (.pointer (some ⟨c, 0, none⟩))).heap.size (W1.setCell ⟨b7, 1, none⟩ (.pointer (some ⟨c, 0, none⟩))) W2)
    (hd : (W1.setCell ⟨b7, 1, none⟩ (.pointer (some ⟨c, 0, none⟩))).heap.size ≤ d) (hy : InR y) : Main w0 (W2.setCell ⟨b8, 1, none⟩ (.pointer (some ⟨d, 0, none⟩))) b7 b8 n := by
  have k1 : Kept W W1 (fun _ => False) := Kept.of_below hB _
  have k : Kept W (W2.setCell ⟨b8, 1, none⟩ (.pointer (some ⟨d, 0, none⟩))) (fun k => k = b7 ∨ k = b8) := (((Kept.of_below hB _).setCell (.inl (.inl rfl)) _).below hB2).setCell (.inl (.inr rfl)) _
  have e78 : b7 ≠ b8 := blk_ne h.a7 h.a8 (by decide)
  have A7 := blk_far (blk_below (blk_set (blk_kept h.a7 k1 id) 1 (.pointer (some ⟨c, 0, none⟩))) hB2) (p := ⟨b8, 1, none⟩) e78 (.pointer (some ⟨d, 0, none⟩))
  have A8 := blk_set (blk_below (blk_far (blk_kept h.a8 k1 id) (p := ⟨b7, 1, none⟩) (fun e => e78 e.symm) (.pointer (some ⟨c, 0, none⟩))) hB2) 1 (.pointer (some ⟨d, 0, none⟩))
  have hsz : W1.heap.size ≤ (W1.setCell ⟨b7, 1, none⟩ (.pointer (some ⟨c, 0, none⟩))).heap.size := by simp
  have q7 : c ≠ b7 := blk_ne hw.1 (blk_kept h.a7 k1 id) (by decide)
  have q8 : c ≠ b8 := blk_ne hw.1 (blk_kept h.a8 k1 id) (by decide)
  have C := blk_far (blk_below (blk_far hw.1 (p := ⟨b7, 1, none⟩) q7 (.pointer (some ⟨c, 0, none⟩))) hB2) (p := ⟨b8, 1, none⟩) q8 (.pointer (some ⟨d, 0, none⟩))
  have p8 : d ≠ b8 := blk_ne hr.blk (blk_below (blk_far (blk_kept h.a8 k1 id) (p := ⟨b7, 1, none⟩) (fun e => e78 e.symm) (.pointer (some ⟨c, 0, none⟩))) hB2) (by decide)
  have D := blk_far hr.blk (p := ⟨b8, 1, none⟩) p8 (.pointer (some ⟨d, 0, none⟩))
  have s1 := hB.size
  have cl := blk_lt h.t0.win.1
  have dl := blk_lt h.t0.ref.blk
  have cg := hw.2
  have g0 := h.below.size
  have tn : Two w0 (W2.setCell ⟨b8, 1, none⟩ (.pointer (some ⟨d, 0, none⟩))) c d y y (.slice none 0 0) [] := ⟨⟨C, by omega⟩, ⟨D, hr.ge, own_nil _ _ _ _, by simp [Value.ownBlock]⟩, rfl, hy⟩
  have tt : Two w0 (W2.setCell ⟨b8, 1, none⟩ (.pointer (some ⟨d, 0, none⟩))) c0 d0 x0 f0 v0 ms0 := h.t0.kept k
    (by rintro (e | e); exact blk_ne h.t0.win.1 h.a7 (by decide) e; exact blk_ne h.t0.win.1 h.a8 (by decide) e)
    (by rintro (e | e); exact blk_ne h.t0.ref.blk h.a7 (by decide) e; exact blk_ne h.t0.ref.blk h.a8 (by decide) e)
    (by intro b hb; rintro (e | e); subst e; exact own_ne h.t0.ref.row h.a7 (by decide) hb.symm; subst e; exact own_ne h.t0.ref.row h.a8 (by decide) hb.symm)
  have hlow : Below w0.heap.size w0 (W2.setCell ⟨b8, 1, none⟩ (.pointer (some ⟨d, 0, none⟩))) :=
    (below_then ((below_then h.below h.below.size hB).setCell h.g7 _) (by omega) hB2).setCell h.g8 _
  exact ⟨c0, c, d0, d, x0, y, f0, y, v0, .slice none 0 0, ms0, [], by simpa using A7, by simpa using A8, h.g7, h.g8, tt, tn, by omega, by omega, by cases e : v0.ownBlock <;> simp [Value.ownBlock], h.l0, by simp, hlow⟩
end Go.Proofs.Ytbngliommdmnkaa.MW
