/- SharePlays: two pairs side by side; a step at the one leaves the other. No condition. -/
import Derived.Test.YtedkjbdkokdgdaaMPlays
namespace Go.Proofs.Ytedkjbdkokdgdaa.Sh
open Go Go.RowKit Go.Proofs.YtedkjbdkokdgdaaW.PrintWords Go.Proofs.YtedkjbdkokdgdaaW.PrintLast Go.Proofs.YtedkjbdkokdgdaaW.PrintMore Go.Proofs.Ytedkjbdkokdgdaa.QL
set_option linter.unusedVariables false
/-- Two pairs, apart. -/
structure Two (w : World) (p0 a0 q0 p1 a1 q1 n B : Nat) (v0 : Value) (D0 : List S72) (m0 : Int → Qu) (v1 : Value) (D1 : List S72) (m1 : Int → Qu) : Prop where
  b0 : Both w p0 a0 n q0 B v0 D0 m0
  b1 : Both w p1 a1 n q1 B v1 D1 m1
  ma : a0 ≠ a1
  qa : q0 ≠ q1
  va : ∀ g, v0.ownBlock = some g → v1.ownBlock ≠ some g
section
variable {w w' : World} {p0 a0 q0 p1 a1 q1 n n' B k : Nat} {v0 : Value} {D0 : List S72} {m0 : Int → Qu} {v1 : Value} {D1 : List S72} {m1 m' : Int → Qu}
theorem Two.swap (h : Two w p0 a0 q0 p1 a1 q1 n B v0 D0 m0 v1 D1 m1) : Two w p1 a1 q1 p0 a0 q0 n B v1 D1 m1 v0 D0 m0 := ⟨h.b1, h.b0, h.ma.symm, h.qa.symm, fun g h1 h2 => h.va g h2 h1⟩
theorem Two.low (h : Two w p0 a0 q0 p1 a1 q1 n B v0 D0 m0 v1 D1 m1) (hb : Below w.heap.size w w') : Two w' p0 a0 q0 p1 a1 q1 n B v0 D0 m0 v1 D1 m1 := ⟨h.b0.low hb, h.b1.low hb, h.ma, h.qa, h.va⟩
theorem Two.step (h : Two w p0 a0 q0 p1 a1 q1 n B v0 D0 m0 v1 D1 m1) (hn : n ≤ n') (hs : StepPost w w' p0 a0 n' q0 B v0 k m') : ∃ v' D', Two w' p0 a0 q0 p1 a1 q1 n' B v' D' m' v1 D1 m1 ∧ D'.length ≤ k ∧ Fr w w' (fun b => b = a0 ∨ b = q0 ∨ v0.ownBlock = some b) := by
  obtain ⟨v', D', hb, hk, hf, ho⟩ := hs
  have x1 := Both.ne h.b1.sh h.b0.doc
  have x2 := Both.ne h.b0.sh h.b1.doc
  have y1 := Both.ne h.b1.sh h.b1.doc
  have hsh : ShAt w' p1 a1 n m1 := h.b1.sh.fr hf (fun e => by
      rcases e with e | e | e
      · have hs := h.b0.sh.mq.own
        obtain ⟨E, ⟨es, clock, hb, _⟩, _⟩ := hs
        rw [← e, h.b1.sh.blk] at hb
        cases hb
      · exact x1.2.1 e
      · exact x1.2.2.2 e) (fun e => by
      rcases e with e | e | e
      · exact h.ma e.symm
      · exact x1.1 e
      · exact x1.2.2.1 e)
  have hdoc : DocAt w' q1 B v1 D1 := h.b1.doc.fr hf (fun e => by
      rcases e with e | e | e
      · exact x2.1 e.symm
      · exact h.qa e.symm
      · exact Kd.R_ne h.b0.doc.row h.b1.doc.blk (by decide) e.symm) (fun g hg e => by
      rcases e with e | e | e
      · exact x2.2.2.1 (by rw [hg, e])
      · exact Kd.R_ne h.b1.doc.row h.b0.doc.blk (by decide) (by rw [hg, e])
      · exact h.va g e hg)
  refine ⟨v', D', ⟨hb, ⟨hsh.mono hn, hdoc, h.b1.dr⟩, h.ma, h.qa, fun g h1 h2 => ?_⟩, hk, hf⟩
  rcases ho g h1 with e | e
  · exact h.va g e h2
  · have := Kd.R_lt h.b1.doc.row g h2
    omega
/-- A block of another type is kept. -/
theorem Two.blk {b t : Nat} {cs : Array Value} (h : Two w p0 a0 q0 p1 a1 q1 n B v0 D0 m0 v1 D1 m1) (hf : Fr w w' (fun b => b = a0 ∨ b = q0 ∨ v0.ownBlock = some b)) (hb : w.heap[b]? = some (.cells cs t (0, 0))) (h63 : t ≠ 63) (h72 : 72 ≠ t) : w'.heap[b]? = some (.cells cs t (0, 0)) := by
  refine (hf.block b (blk_lt hb) (fun e => ?_)).trans hb
  rcases e with e | e | e
  · obtain ⟨E, ⟨es, clock, hm, _⟩, _⟩ := h.b0.sh.mq.own
    rw [← e, hb] at hm
    cases hm
  · exact blk_ne hb h.b0.doc.blk h63 e
  · exact Kd.R_ne h.b0.doc.row hb h72 e.symm
theorem Two.below {w0 : World} (h : Two w p0 a0 q0 p1 a1 q1 n B v0 D0 m0 v1 D1 m1) (hf : Fr w w' (fun b => b = a0 ∨ b = q0 ∨ v0.ownBlock = some b)) (ha : B ≤ a0) (hq : B ≤ q0) (hb : Below B w0 w) (hB : B ≤ w.heap.size) : Below B w0 w' :=
  Fr.below hb hB hf (fun k e => by
    rcases e with e | e | e
    · omega
    · omega
    · exact Kd.R_base h.b0.doc.row k e)
end
end Go.Proofs.Ytedkjbdkokdgdaa.Sh
