/- The document's Right tells what the program tells: the plain law. No condition. -/
import Derived.Test.YtoffhlbdfhhhjaaDoorMFwC
import Derived.Test.YtoffhlbdfhhhjaaDoorMFg9
import Derived.Test.YtoffhlbdfhhhjaaDoorMFrK
namespace Go.Proofs.YtoffhlbdfhhhjaaDoor.Fr
open Go Go.RowKit Go.Proofs.YtoffhlbdfhhhjaaDoorW.PrintWords Go.Proofs.YtoffhlbdfhhhjaaDoorW.PrintLast Go.Proofs.YtoffhlbdfhhhjaaDoorW.PrintMore Go.Proofs.YtoffhlbdfhhhjaaDoor.QL
set_option linter.unusedSimpArgs false
set_option linter.unusedVariables false
set_option maxHeartbeats 8000000
set_option maxRecDepth 100000
def refA (f : Fr) : Bool := inR f.ty 0 255 && inR f.fl 0 255 && (Go.bits .andNot .i64 f.fl (kFl f.ty) == 0) && inR f.st 0 2147483647 && stB f.ty f.st
def refP (f : Fr) : Bool := inR f.pad 0 255 && !(decide (0 < f.pad) && !padB f)
def refW (f : Fr) : Bool := if prioB f = true then inR f.dep 0 2147483647 && inR f.wt 1 256 else (f.dep == 0 && !f.ex && f.wt == 0)
def refB (f : Fr) : Bool := refA f && refP f && refW f && (numR f && listR f)
theorem isEmpty_iff (b : ByteArray) : b.toList.isEmpty = true ↔ b = ByteArray.empty := by
  rw [ByteArray.toList_eq]
  constructor
  · intro h
    apply ba_ext
    rw [List.isEmpty_iff] at h
    rw [h]
    rfl
  · rintro rfl
    rfl
theorem ref_of (f : Fr) (h : refB f = true) : rightB f = true := by
  unfold refB at h
  simp only [Bool.and_eq_true] at h
  obtain ⟨⟨⟨hA, hP⟩, hW⟩, hN, hL⟩ := h
  unfold refA at hA
  simp only [Bool.and_eq_true] at hA
  obtain ⟨⟨⟨⟨a1, a2⟩, a3⟩, a4⟩, a5⟩ := hA
  unfold refP at hP
  simp only [Bool.and_eq_true] at hP
  obtain ⟨p1, p2⟩ := hP
  have q1 := inR_iff p1
  have q2 : padB f = false → f.pad = 0 := by
    intro h
    rw [h] at p2
    simp at p2
    omega
  unfold numR at hN
  simp only [Bool.and_eq_true] at hN
  obtain ⟨n1, n2⟩ := hN
  have n1 := inR_iff n1
  have n2 := inR_iff n2
  unfold listR npR at hL
  simp only [Bool.and_eq_true] at hL
  obtain ⟨⟨l1, l2⟩, l3⟩ := hL
  have l4 : 0 < f.ps.length → f.ty = 4 ∧ f.fl = 0 := by
    intro h
    rw [decide_eq_true h] at l1
    simpa using l1
  have w1 : 0 ≤ f.dep ∧ f.dep ≤ 2147483647 ∧ (prioB f = true → 1 ≤ f.wt ∧ f.wt ≤ 256) ∧ (prioB f = false → f.dep = 0 ∧ f.ex = false ∧ f.wt = 0) := by
    unfold refW at hW
    cases hp : prioB f
    · rw [hp] at hW
      simp at hW
      exact ⟨by omega, by omega, fun h => (by cases h), fun _ => ⟨hW.1.1, hW.1.2, hW.2⟩⟩
    · rw [hp, if_pos rfl] at hW
      simp only [Bool.and_eq_true] at hW
      have h1 := inR_iff hW.1
      have h2 := inR_iff hW.2
      exact ⟨h1.1, h1.2, fun _ => h2, fun h => by cases h⟩
  unfold rightB headB numB sameB
  simp only [Bool.and_eq_true]
  refine ⟨⟨⟨⟨⟨⟨⟨⟨a1, a3⟩, a4⟩, a5⟩, ?_⟩, ?_⟩, ?_⟩, ⟨⟨p1, inR_of w1.1 w1.2.1⟩, ?_⟩, ?_⟩, ⟨⟨⟨⟨⟨?_, ?_⟩, ?_⟩, ?_⟩, ?_⟩, ?_⟩, ?_⟩
  · cases hp : prioB f
    · rfl
    · have := w1.2.2.1 hp
      rw [Bool.not_true, Bool.false_or]
      exact inR_of this.1 this.2
  · by_cases e4 : f.ty = 4
    · have : parB f = true := by
        unfold parB
        rw [Bool.and_eq_true]
        refine ⟨?_, l2⟩
        by_cases h : 0 < f.ps.length
        · rw [(l4 h).2, show has 0 1 = false from by decide]
          rfl
        · rw [decide_eq_false h, Bool.and_false]
          rfl
      rw [this, Bool.or_true]
    · have : (f.ty != 4) = true := by simp [e4]
      rw [this, Bool.true_or]
  · unfold lenB
    have e1 : (f.ty == 6 && f.da.size != 8) = false := by
      by_cases e6 : f.ty = 6
      · unfold daR at l3
        rw [if_neg (by omega), if_pos e6] at l3
        have : (f.da.size != 8) = false := by simpa using l3
        rw [this, Bool.and_false]
      · have : (f.ty == 6) = false := by simp [e6]
        rw [this, Bool.false_and]
    have e2 : (f.ty != 4 && decide (0 < f.ps.length)) = false := by
      by_cases h : 0 < f.ps.length
      · have : (f.ty != 4) = false := by simp [(l4 h).1]
        rw [this, Bool.false_and]
      · rw [decide_eq_false h, Bool.and_false]
    rw [e1, e2]
    rfl
  · exact inR_of n1.1 (by have := n1.2; split at this <;> omega)
  · exact inR_of n2.1 (by have := n2.2; split at this <;> omega)
  · unfold ownPad
    cases hp : padB f
    · rw [if_neg (by decide), q2 hp]; rfl
    · rw [if_pos rfl]; exact beq_self_eq_true _
  · unfold ownDep
    cases hp : prioB f
    · rw [if_neg (by decide), (w1.2.2.2 hp).1]; rfl
    · rw [if_pos rfl]; exact beq_self_eq_true _
  · unfold ownEx
    cases hp : prioB f
    · rw [if_neg (by decide), (w1.2.2.2 hp).2.1]; rfl
    · rw [if_pos rfl]; exact beq_self_eq_true _
  · unfold ownWt
    cases hp : prioB f
    · rw [if_neg (by decide), (w1.2.2.2 hp).2.2]; rfl
    · rw [if_pos rfl]; exact beq_self_eq_true _
  · unfold ownCo
    by_cases h : f.ty = 3 ∨ f.ty = 7
    · rw [if_pos h]; exact beq_self_eq_true _
    · rw [if_neg h] at n1 ⊢
      rw [show f.co = 0 by omega]; rfl
  · unfold ownLa
    by_cases h : f.ty = 5 ∨ f.ty = 7 ∨ f.ty = 8
    · rw [if_pos (by omega)]; exact beq_self_eq_true _
    · rw [if_neg h] at n2
      rw [if_neg (by omega), show f.la = 0 by omega]; rfl
  · unfold ownDa
    by_cases h : f.ty = 3 ∨ f.ty = 4 ∨ f.ty = 2 ∨ f.ty = 8
    · unfold daR at l3
      rw [if_pos (by omega)] at l3
      rw [if_pos h, (isEmpty_iff _).1 l3]
      exact beq_self_eq_true _
    · rw [if_neg h]; exact beq_self_eq_true _
theorem of_ref (f : Fr) (h0 : -9223372036854775808 ≤ f.fl) (h1 : f.fl ≤ 9223372036854775807) (h : rightB f = true) : refB f = true := by
  have hra := right_all h
  have hro := right_own h
  have hfl := right_fl h h0 h1
  have hc := h
  unfold rightB headB numB at hc
  simp only [Bool.and_eq_true] at hc
  obtain ⟨⟨⟨⟨⟨⟨⟨⟨a1, a3⟩, a4⟩, a5⟩, _⟩, hpar⟩, _⟩, ⟨⟨p1, d1⟩, c1⟩, la1⟩, _⟩ := hc
  have hps : f.ty ≠ 4 → f.ps = [] := hro.none
  unfold refB
  simp only [Bool.and_eq_true]
  refine ⟨⟨⟨?_, ?_⟩, ?_⟩, ?_, ?_⟩
  · unfold refA
    simp only [Bool.and_eq_true]
    exact ⟨⟨⟨⟨a1, inR_of hfl.2.1 hfl.2.2⟩, a3⟩, a4⟩, a5⟩
  · unfold refP
    rw [Bool.and_eq_true]
    refine ⟨p1, ?_⟩
    have e := hro.pad
    unfold ownPad at e
    cases hp : padB f
    · rw [hp, if_neg (by decide)] at e
      rw [← e]; rfl
    · rw [Bool.not_true, Bool.and_false]; rfl
  · unfold refW
    cases hp : prioB f
    · have e1 := hro.dep
      have e2 := hro.ex
      have e3 := hro.wt
      unfold ownDep at e1
      unfold ownEx at e2
      unfold ownWt at e3
      rw [hp, if_neg (by decide)] at e1 e2 e3
      rw [if_neg (by decide), ← e1, ← e2, ← e3]; rfl
    · rw [if_pos rfl, Bool.and_eq_true]
      exact ⟨d1, inR_of (hro.pw hp).1 (hro.pw hp).2⟩
  · unfold numR
    rw [Bool.and_eq_true]
    have e1 := hro.co
    have e2 := hro.la
    unfold ownCo at e1
    unfold ownLa at e2
    refine ⟨?_, ?_⟩
    · by_cases hh : f.ty = 3 ∨ f.ty = 7
      · rw [if_pos hh]; exact c1
      · rw [if_neg hh] at e1 ⊢
        rw [← e1]; rfl
    · by_cases hh : f.ty = 5 ∨ f.ty = 7 ∨ f.ty = 8
      · rw [if_pos hh]; exact la1
      · rw [if_neg (by omega)] at e2
        rw [if_neg hh, ← e2]; rfl
  · unfold listR
    simp only [Bool.and_eq_true]
    refine ⟨⟨?_, ?_⟩, ?_⟩
    · unfold npR
      by_cases hh : 0 < f.ps.length
      · have e4 : f.ty = 4 := by
          by_cases e4 : f.ty = 4
          · exact e4
          · rw [hps e4] at hh
            exact absurd hh (by decide)
        have hp4 := hro.par e4
        unfold parB at hp4
        rw [Bool.and_eq_true, decide_eq_true hh, Bool.and_true] at hp4
        have hz : f.fl = 0 := by
          have hk : kFl f.ty = 1 := by rw [e4]; rfl
          have hm := hfl.1
          rw [hk] at hm
          have hh1 : has f.fl 1 = false := by simpa using hp4.1
          unfold has at hh1
          rw [hm] at hh1
          simpa using hh1
        rw [hz]
        have : (f.ty != 4) = false := by simp [e4]
        rw [this]
        simp
      · rw [decide_eq_false hh]; rfl
    · by_cases e4 : f.ty = 4
      · have hp4 := hro.par e4
        unfold parB at hp4
        rw [Bool.and_eq_true] at hp4
        exact hp4.2
      · rw [hps e4]; rfl
    · unfold daR
      have e1 := hro.da
      unfold ownDa at e1
      by_cases hh : f.ty = 2 ∨ f.ty = 3 ∨ f.ty = 4 ∨ f.ty = 8
      · rw [if_pos (by omega)] at e1
        rw [if_pos hh]
        exact (isEmpty_iff _).2 e1.symm
      · rw [if_neg hh]
        by_cases e6 : f.ty = 6
        · rw [if_pos e6, hro.ping e6]; rfl
        · rw [if_neg e6]
theorem ref_right (f : Fr) (h0 : -9223372036854775808 ≤ f.fl) (h1 : f.fl ≤ 9223372036854775807) : refB f = rightB f := Bool.eq_iff_iff.mpr ⟨ref_of f, of_ref f h0 h1⟩
end Go.Proofs.YtoffhlbdfhhhjaaDoor.Fr
