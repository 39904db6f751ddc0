/- The text of a builder: all other blocks stay as they were. The builder is one that the call has made. -/
import Derived.Test.YtoffhlbdfhhhjaaDoorMFrA
import Derived.RegionTactic
namespace Go.Proofs.YtoffhlbdfhhhjaaDoor.Fr
open Go Go.RowKit Go.Proofs.YtoffhlbdfhhhjaaDoorW.PrintWords Go.Proofs.YtoffhlbdfhhhjaaDoorW.PrintLast Go.Proofs.YtoffhlbdfhhhjaaDoorW.PrintMore Go.Proofs.YtoffhlbdfhhhjaaDoor.QL
set_option linter.unusedSimpArgs false
set_option linter.unusedVariables false
set_option maxHeartbeats 4000000
set_option maxRecDepth 100000
/-- All blocks stay but the row that the builder at b writes into. -/
def Others (b : Nat) (w w' : World) : Prop := w.heap.size ≤ w'.heap.size ∧ ∀ k, k < w.heap.size → (∀ p v, w.heap[b]? = some (.cells #[p, v] 84 (0, 0)) → v.ownBlock ≠ some k) → w'.heap[k]? = w.heap[k]?
theorem Others.of_below {b : Nat} {w w' : World} (h : Below w.heap.size w w') : Others b w w' := ⟨h.size, fun k hk _ => h.block k hk⟩
theorem textOf_nil (b : Nat) (p : Value) (w : World) (hb : w.heap[b]? = some (.cells #[p, .slice none 0 0] 84 (0, 0))) :
    Calls Tryd.prog 52 #[.pointer (some ⟨b, 0, none⟩)] w fun e w' => e = .returned (.string ⟨#[]⟩) ∧ Below w.heap.size w w' := by
  have c1 : w.drew.cell? ⟨b, 1, none⟩ = some (.slice none 0 0) := blk_cell hb 1
  have d1 := Lib.run_unsafeSliceData_nil (P := Tryd.prog) w.drew #[61] 119 0 0
  have d2 := Lib.run_unsafeString_none (P := Tryd.prog) w.drew 119 3 9 none
  have HB := Aside0.mk (below_drew (Below.refl w.heap.size w))
  go_enter Tryd.func52, Tryd.ntmps52
  go_wp2_with fail
  go_region
  all_goals (go_wp2_with fail; go_ret; exact ⟨rfl, HB.out⟩)
theorem textOf_cap (b g cap : Nat) (p : Value) (w : World) (hc : cap ≠ 0) (hb : w.heap[b]? = some (.cells #[p, .slice (some ⟨g, 0, none⟩) 0 cap] 84 (0, 0))) :
    Calls Tryd.prog 52 #[.pointer (some ⟨b, 0, none⟩)] w fun e w' => e = .returned (.string ⟨#[]⟩) ∧ Below w.heap.size w w' := by
  have c1 : w.drew.cell? ⟨b, 1, none⟩ = some (.slice (some ⟨g, 0, none⟩) 0 cap) := blk_cell hb 1
  have d1 := Lib.run_unsafeSliceData_row (P := Tryd.prog) w.drew #[61] 119 ⟨g, 0, none⟩ 0 cap hc
  have d2 := Lib.run_unsafeString_none (P := Tryd.prog) w.drew 119 3 9 (some ⟨g, 0, none⟩)
  have HB := Aside0.mk (below_drew (Below.refl w.heap.size w))
  clear hc
  go_enter Tryd.func52, Tryd.ntmps52
  go_wp2_with fail
  go_region
  all_goals (go_wp2_with fail; go_ret; exact ⟨rfl, HB.out⟩)
theorem textOf_full (b g cap : Nat) (p : Value) (l : List UInt8) (cur : Array Value) (fz : Nat × Nat) (w : World) (h0 : l ≠ []) (hl : l.length ≤ cap) (hm : cap ≤ maxLen) (hs : cur.size = cap) (hb : w.heap[b]? = some (.cells #[p, .slice (some ⟨g, 0, none⟩) l.length cap] 84 (0, 0))) (hg : w.heap[g]? = some (.cells cur 5 fz))
    (hcell : ∀ j x, l[j]? = some x → w.drew.cell? ((⟨g, 0, none⟩ : Addr).add j) = some (.int .u8 x.toNat)) :
    Calls Tryd.prog 52 #[.pointer (some ⟨b, 0, none⟩)] w fun e w' => e = .returned (.string ⟨l.toArray⟩) ∧ w' = w.drew.freeze ⟨g, 0, none⟩ l.length := by
  have hl0 : l.length ≠ 0 := by simpa using h0
  have c1 : w.drew.cell? ⟨b, 1, none⟩ = some (.slice (some ⟨g, 0, none⟩) l.length cap) := blk_cell hb 1
  have d1 := Lib.run_unsafeSliceData_row (P := Tryd.prog) w.drew #[61] 119 ⟨g, 0, none⟩ l.length cap (by omega)
  have hsh : w.drew.shape? g = some (5, cur.size) := by
    have h : w.drew.heap[g]? = some (.cells cur 5 fz) := hg
    simp [World.shape?, h]
  have d2 := Lib.run_unsafeString_row (P := Tryd.prog) w.drew 119 3 9 5 Tryd.underlying119 (by kernel_rfl) g cur.size hsh l h0 (by omega) (by unfold maxLen at hm; omega) hcell
  have h63 : l.length ≤ 9223372036854775807 := by unfold maxLen at hm; omega
  clear hcell hsh hl0 hm hl hs hg h0
  go_enter Tryd.func52, Tryd.ntmps52
  go_wp2_with fail
  go_region
  all_goals (go_wp2_with fail; go_ret; exact ⟨rfl, rfl⟩)
theorem textOf_zero (b g : Nat) (p : Value) (cur : Array Value) (fz : Nat × Nat) (w : World) (hb : w.heap[b]? = some (.cells #[p, .slice (some ⟨g, 0, none⟩) 0 0] 84 (0, 0))) (hg : w.heap[g]? = some (.cells cur 5 fz)) :
    Calls Tryd.prog 52 #[.pointer (some ⟨b, 0, none⟩)] w fun e w' => e = .returned (.string ⟨#[]⟩) ∧ Below w.heap.size w w' := by
  have c1 : w.drew.cell? ⟨b, 1, none⟩ = some (.slice (some ⟨g, 0, none⟩) 0 0) := blk_cell hb 1
  have hsh : w.drew.shape? g = some (5, cur.size) := by
    have h : w.drew.heap[g]? = some (.cells cur 5 fz) := hg
    simp [World.shape?, h]
  have d1 := Lib.run_unsafeSliceData_zero (P := Tryd.prog) w.drew #[61] 119 5 Tryd.underlying119 ⟨g, 0, none⟩ 0 (5, cur.size) hsh
  have c2 : (w.drew.alloc (.view ⟨g, 0, none⟩ 5)).cell? ⟨b, 1, none⟩ = some (.slice (some ⟨g, 0, none⟩) 0 0) := blk_cell (blk_alloc (w := w.drew) hb _) 1
  have c3 : (w.alloc (.view ⟨g, 0, none⟩ 5)).drew.cell? ⟨b, 1, none⟩ = some (.slice (some ⟨g, 0, none⟩) 0 0) := c2
  have c0 : w.cell? ⟨b, 1, none⟩ = some (.slice (some ⟨g, 0, none⟩) 0 0) := c1
  have d2 := fun W q => Lib.run_unsafeString_none (P := Tryd.prog) W 119 3 9 q
  have HB := Aside0.mk (below_drew (below_alloc (Below.refl w.heap.size w) (.view ⟨g, 0, none⟩ 5)))
  clear hsh hg
  go_enter Tryd.func52, Tryd.ntmps52
  go_wp2_with fail
  go_region
  all_goals (go_wp2_with fail; go_ret; exact ⟨rfl, HB.out⟩)
theorem freeze_at (w : World) (a : Addr) (n : Nat) : (w.freeze a n).heap.size = w.heap.size ∧ ∀ k, k ≠ a.block → (w.freeze a n).heap[k]? = w.heap[k]? := by
  unfold World.freeze
  split
  · exact ⟨rfl, fun _ _ => rfl⟩
  · refine ⟨Array.size_modify, fun k hk => ?_⟩
    show (w.heap.modify a.block _)[k]? = _
    rw [Array.getElem?_modify, if_neg (fun h => hk h.symm)]
/-- The text of a builder. -/
theorem textOf_calls (B b : Nat) (l : List UInt8) (w : World) (h : Bd B b l w) (hBw : B ≤ w.heap.size) :
    Calls Tryd.prog 52 #[.pointer (some ⟨b, 0, none⟩)] w fun e w' => e = .returned (.string ⟨l.toArray⟩) ∧ Below B w w' ∧ Others b w w' := by
  obtain ⟨p, v, hB, hb, hown⟩ : ∃ p v, B ≤ b ∧ w.heap[b]? = some (.cells #[p, v] 84 (0, 0)) ∧ w.ownsRowF B 5 1 v l.length (Lib.byteCells l) := by
    rcases h with ⟨hB, v, hb, ho, _⟩ | ⟨hB, v, hb, ho, _⟩
    · rw [Lib.byteCells_length] at ho; exact ⟨_, v, hB, hb, ho⟩
    · rw [Lib.byteCells_length] at ho; exact ⟨_, v, hB, hb, ho⟩
  have low : ∀ w', Below w.heap.size w w' → Below B w w' := fun w' k => below_lo k hBw
  rcases hown.2 with ⟨rfl, hz⟩ | ⟨g, cap, cur, fz, rfl, hbg, hg, hfz, hnc, hcm, hcs, htake⟩
  · obtain rfl : l = [] := List.eq_nil_of_length_eq_zero hz
    exact (textOf_nil b p w hb).mono fun _ _ ⟨h1, h2⟩ => ⟨h1, low _ h2, Others.of_below h2⟩
  · by_cases h0 : l = []
    · subst h0
      by_cases hc : cap = 0
      · subst hc
        exact (textOf_zero b g p cur fz w hb hg).mono fun _ _ ⟨h1, h2⟩ => ⟨h1, low _ h2, Others.of_below h2⟩
      · exact (textOf_cap b g cap p w hc hb).mono fun _ _ ⟨h1, h2⟩ => ⟨h1, low _ h2, Others.of_below h2⟩
    · refine (textOf_full b g cap p l cur fz w h0 hnc hcm (by omega) hb hg ?_).mono ?_
      · intro j x hx
        exact hown.cells (g := g) rfl j (.int .u8 x.toNat) (by simp [Lib.byteCells, hx])
      · rintro e w' ⟨h1, rfl⟩
        refine ⟨h1, Lib.below_freeze (below_drew (Below.refl B w)) (p := ⟨g, 0, none⟩) hbg _, ?_⟩
        have hz := freeze_at w.drew ⟨g, 0, none⟩ l.length
        refine ⟨by rw [hz.1]; exact Nat.le_refl _, fun k hk hne => ?_⟩
        exact hz.2 k (fun he => hne p _ hb (by rw [he]; rfl))
end Go.Proofs.YtoffhlbdfhhhjaaDoor.Fr
