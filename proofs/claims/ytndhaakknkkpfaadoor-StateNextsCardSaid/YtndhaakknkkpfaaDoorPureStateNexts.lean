/- Along any events, from any number, the program's states and verdicts are the document's: for every start and every list of events; no condition but that numbers are of 64 bits. -/
import Derived.Test.YtndhaakknkkpfaaDoorReadStateNexts
import Derived.Test.YtndhaakknkkpfaaDoorPState
namespace Go.Proofs.YtndhaakknkkpfaaDoor.Pure
open Go.RowKit Go.Proofs.YtndhaakknkkpfaaDoor.QAll Go.Proofs.YtndhaakknkkpfaaDoor.ZRow Go.Proofs.YtndhaakknkkpfaaDoorW.PrintWords Go.Proofs.YtndhaakknkkpfaaDoorW.PrintLast Go.Proofs.YtndhaakknkkpfaaDoorW.PrintMore

theorem nexts_loop (l : List S28) (hl : l.length * 16 ≤ 140737488351232) (d : Nat) : ∀ (k : Nat) (i s : Int), 0 ≤ i → i ≤ l.length → (l.length : Int) - i = d → d + 12 ≤ k →
    heraldlaw10_StateNexts.l0 k s l i = some true := by
  induction d with
  | zero =>
    intro k i s h0 h1 hd hk
    obtain ⟨k, rfl⟩ : ∃ m, k = m + 1 := ⟨k - 1, by omega⟩
    simp only [heraldlaw10_StateNexts.l0]
    rw [if_neg (by omega)]
  | succ d ih =>
    intro k i s h0 h1 hd hk
    obtain ⟨k, rfl⟩ : ∃ m, k = m + 1 := ⟨k - 1, by omega⟩
    have hi : wrap64 (i + 1) = i + 1 := wrap_one h0 (by omega)
    simp only [heraldlaw10_StateNexts.l0]
    rw [if_pos (by omega), if_pos h0, law_next, ref_next]
    simp only [Option.bind_some, if_true]
    rw [counts_all _ k (by omega), ref_counts]
    simp only [Option.bind_some, bne_self_eq_false, Bool.false_eq_true, if_false]
    rw [hi]
    exact ih k (i + 1) _ (by omega) (by omega) (by omega) (by omega)

theorem StateNexts : QAll.Plain := by
  intro s l _ hl
  refine ⟨l.length + 13, ?_⟩
  unfold heraldlaw10_StateNexts.f
  rw [head_all _ (by omega), names_true]
  simp only [Option.bind_some, if_true, Bool.not_true, heraldlaw10_StateNexts.j0, Bool.false_eq_true, if_false]
  rw [counts_all _ _ (by omega), ref_counts]
  simp only [Option.bind_some, bne_self_eq_false, Bool.false_eq_true, if_false]
  exact nexts_loop l hl.1 l.length _ 0 s (by omega) (by omega) (by omega) (by omega)

end Go.Proofs.YtndhaakknkkpfaaDoor.Pure
