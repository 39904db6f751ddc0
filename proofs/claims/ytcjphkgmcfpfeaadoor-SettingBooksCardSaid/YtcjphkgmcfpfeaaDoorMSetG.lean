/- The script's entries, and what the law's loop keeps: the book, the set that holds, the lists that wait. No condition but those in each statement. -/
import Derived.Test.YtcjphkgmcfpfeaaDoorMSetF
namespace Go.Proofs.YtcjphkgmcfpfeaaDoor.QL
open Go.RowKit Go.Proofs.YtcjphkgmcfpfeaaDoorW.PrintWords Go.Proofs.YtcjphkgmcfpfeaaDoorW.PrintLast Go.Proofs.YtcjphkgmcfpfeaaDoorW.PrintMore
set_option linter.unusedVariables false
/-! #### struct type 46 -/
structure S46 where
  f0 : Int
  f1 : Bool
  f2 : (List S28)
def z46 : S46 := ⟨(0 : Int), false, ([] : List S28)⟩
def k46 : Kd S46 := Kd.iso (Kd.pair (Kd.int .i64) (Kd.pair Kd.bool (Kd.slice 28 k28))) (fun x : S46 => (x.f0, x.f1, x.f2))
theorem k46_open {w : World} {x : S46} {cs : List Value} (h : k46.K w x cs) : ∃ A2 c2, cs = [.int .i64 x.f0, .bool x.f1, .slice A2 x.f2.length c2] ∧ x.f2.length ≤ c2 ∧ k28.C w A2 x.f2.length x.f2 := by
  obtain ⟨_, _, rfl, rfl, ⟨_, _, rfl, rfl, ⟨A2, c2, rfl, l2, g2⟩⟩⟩ := h
  exact ⟨A2, c2, rfl, l2, g2⟩
theorem k46_openM {w : World} {base : Nat} {ok : Nat → Prop} {x : S46} {cs : List Value} (h : k46.M w base ok x cs) : ∃ v2, cs = [.int .i64 x.f0, .bool x.f1, v2] ∧ k28.R 28 w base ok v2 x.f2 := by
  obtain ⟨_, _, rfl, rfl, ⟨_, _, rfl, rfl, ⟨v2, rfl, g2⟩⟩⟩ := h
  exact ⟨v2, rfl, g2⟩
theorem k46_mk (w : World) (x : S46) {A2 : Option Addr} {c2 : Nat} (l2 : x.f2.length ≤ c2) (g2 : k28.C w A2 x.f2.length x.f2) : k46.K w x [.int .i64 x.f0, .bool x.f1, .slice A2 x.f2.length c2] := ⟨[.int .i64 x.f0], [.bool x.f1, .slice A2 x.f2.length c2], rfl, rfl, ⟨[.bool x.f1], [.slice A2 x.f2.length c2], rfl, rfl, ⟨A2, c2, rfl, l2, g2⟩⟩⟩
theorem k46_mkM (w : World) (base : Nat) (ok : Nat → Prop) (x : S46) {v2 : Value} (g2 : k28.R 28 w base ok v2 x.f2) : k46.M w base ok x [.int .i64 x.f0, .bool x.f1, v2] := ⟨[.int .i64 x.f0], [.bool x.f1, v2], rfl, rfl, ⟨[.bool x.f1], [v2], rfl, rfl, ⟨v2, rfl, g2⟩⟩⟩
def rd_T46 (xs : List S46) (i : Int) : S46 := xs.getD i.toNat z46
theorem at_T46 {w : World} {A : Option Addr} {n : Nat} {xs : List S46} (h : Kd.C k46 w A n xs) (i : Int) (h0 : 0 ≤ i) (h1 : i < n) : ∃ ad A2 c2, A = some ad ∧ w.cell? (ad.add (i.toNat * 3)) = some (.int .i64 (rd_T46 xs i).f0) ∧ w.cell? ⟨(ad.add (i.toNat * 3)).block, (ad.add (i.toNat * 3)).off + 1, none⟩ = some (.bool (rd_T46 xs i).f1) ∧ w.cell? ⟨(ad.add (i.toNat * 3)).block, (ad.add (i.toNat * 3)).off + 2, none⟩ = some (.slice A2 (rd_T46 xs i).f2.length c2) ∧ (rd_T46 xs i).f2.length ≤ c2 ∧ k28.C w A2 (rd_T46 xs i).f2.length (rd_T46 xs i).f2 := by
  obtain ⟨ad, c, e, _, hK, hc0⟩ := Kd.C_get h z46 i h0 h1
  have hc : ∀ j u, c[j]? = some u → w.cell? (ad.add (i.toNat * 3 + j)) = some u := hc0
  obtain ⟨A2, c2, rfl, l2, g2⟩ := k46_open hK
  exact ⟨ad, A2, c2, e, hc 0 _ rfl, by rw [← add_field _ _ 1 (by omega)]; exact hc 1 _ rfl, by rw [← add_field _ _ 2 (by omega)]; exact hc 2 _ rfl, l2, g2⟩


end Go.Proofs.YtcjphkgmcfpfeaaDoor.QL
namespace Go.Proofs.YtcjphkgmcfpfeaaDoor.MS
open Go Go.RowKit Go.Proofs.YtcjphkgmcfpfeaaDoorW.PrintWords Go.Proofs.YtcjphkgmcfpfeaaDoorW.PrintLast Go.Proofs.YtcjphkgmcfpfeaaDoorW.PrintMore Go.Proofs.YtcjphkgmcfpfeaaDoor.QL
set_option linter.unusedSimpArgs false
set_option linter.unusedVariables false
set_option maxHeartbeats 4000000
theorem IsB.lower {base base' : Nat} {W : World} {g : Nat} {F : Nat → Prop} {cl : Bool} {s : St} {ls : List (List S28)} (h : IsB base W g F cl s ls) (hb : base' ≤ base) : IsB base' W g F cl s ls := by
  obtain ⟨v, h⟩ := h
  exact ⟨v, h.blk, h.mem, fun k hk => ⟨Nat.le_trans hb (h.bound k hk).1, (h.bound k hk).2⟩, Kd.Q_lower h.row hb, h.few⟩
theorem IsB.few {base : Nat} {W : World} {g : Nat} {F : Nat → Prop} {cl : Bool} {s : St} {ls : List (List S28)} (h : IsB base W g F cl s ls) : ls.length ≤ 64 := by
  obtain ⟨v, h⟩ := h
  exact h.few
/-- In the loop: the set that holds at b, the book at g, the lists that wait (they came in by w0). -/
structure HInv (w0 W : World) (b g : Nat) (F : Nat → Prop) (v : Value) (cl : Bool) (s : St) (wait : List (List S28)) : Prop where
  now : W.heap[b]? = some (.cells s.arr 23 (0, 0))
  book : IsB w0.heap.size W g F cl s wait
  row : (Kd.fixed (Kd.slice 28 k28) w0).Q 24 W w0.heap.size (fun k => ¬ F k ∧ k ≠ b) v wait
  nf : ¬ F b
  ge : w0.heap.size ≤ b
  low : Below w0.heap.size w0 W
variable {w0 W W1 : World} {b g : Nat} {F F' : Nat → Prop} {v v' : Value} {cl : Bool} {s s' : St} {wait wait' : List (List S28)}
theorem HInv.below (h : HInv w0 W b g F v cl s wait) (k : Below W.heap.size W W1) : HInv w0 W1 b g F v cl s wait :=
  ⟨blk_below h.now k, h.book.below k, Kd.Q_below h.row k, h.nf, h.ge, below_then h.low h.low.size k⟩
/-- The book has been written. -/
theorem HInv.wrote (h : HInv w0 W b g F v cl s wait) (k : Kept W W1 F) (hb : IsB w0.heap.size W1 g F' cl s' wait') (hf : ∀ i, F' i → F i ∨ W.heap.size ≤ i) :
    W1.heap[b]? = some (.cells s.arr 23 (0, 0)) ∧ (Kd.fixed (Kd.slice 28 k28) w0).Q 24 W1 w0.heap.size (fun k => ¬ F' k ∧ k ≠ b) v wait ∧ ¬ F' b := by
  have hlt := blk_lt h.now
  refine ⟨blk_kept h.now k h.nf, ?_, fun hh => ?_⟩
  · have h1 := Kd.Q_kept (Kd.Q_bound h.row) k (fun i hi => hi.1.1)
    refine Kd.Q_mono h1 (fun i hi => ⟨fun hh => ?_, hi.1.2⟩)
    rcases hf i hh with h2 | h2
    · exact hi.1.1 h2
    · have := hi.2.2.1; omega
  · rcases hf b hh with h2 | h2
    · exact h.nf h2
    · omega
theorem badL_apply (cl : Bool) (s : St) (l : List S28) : (badL cl l = true ↔ (apply cl s l).2 ≠ 0) := by
  induction l generalizing s with
  | nil => simp [badL, apply]
  | cons p t ih =>
    unfold badL apply
    by_cases h : valid p.f0 p.f1 cl = 0
    · rw [if_pos h, if_pos h]; exact ih _
    · rw [if_neg h, if_neg h]; simp [h]
/-- An entry's list, appended to those that wait. -/
theorem fixed_M {A : Option Addr} {c : Nat} {l : List S28} {base : Nat} {ok : Nat → Prop} (h : k28.C w0 A l.length l) (hc : l.length ≤ c) : (Kd.fixed (Kd.slice 28 k28) w0).M W base ok l [.slice A l.length c] := ⟨A, c, rfl, hc, h⟩
end Go.Proofs.YtcjphkgmcfpfeaaDoor.MS
