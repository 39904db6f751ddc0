/- The document's Next as a plain function; it tells what the program's tells. -/
import Derived.Test.YtoffhlbdfhhhjaaDoorMFyA
import Derived.Test.YtoffhlbdfhhhjaaDoorMFdB
import Derived.Test.YtoffhlbdfhhhjaaDoorMFrK
namespace Go.Proofs.YtoffhlbdfhhhjaaDoor.Fr
open Go Go.RowKit Go.Proofs.YtoffhlbdfhhhjaaDoorW.PrintWords Go.Proofs.YtoffhlbdfhhhjaaDoorW.PrintLast Go.Proofs.YtoffhlbdfhhhjaaDoorW.PrintMore Go.Proofs.YtoffhlbdfhhhjaaDoor.QL
set_option linter.unusedSimpArgs false
set_option linter.unusedVariables false
set_option maxHeartbeats 4000000
set_option maxRecDepth 100000
/-- The program's feed that stands for the document's. -/
def Dc.fd (f : Dc) : Fd := ⟨f.most, f.b, if f.gr = true then prefaceB else ByteArray.empty, f.code, f.st⟩
/-- What a feed of the document keeps to. -/
def Dc.Ok (f : Dc) : Prop := f.st = 0 ∧ (f.code ≠ 0 → f.b = ByteArray.empty)
/-- Behind the preface. -/
def restD (f : Dc) : Dc × Nx :=
  if (rdF f.b f.most).code ≠ 0 ∧ (rdF f.b f.most).st = 0 then ({ f with b := ByteArray.empty, code := (rdF f.b f.most).code, st := (rdF f.b f.most).st }, ⟨Fr.zero, false, (rdF f.b f.most).code, (rdF f.b f.most).st⟩)
  else if (rdF f.b f.most).code ≠ 0 then ({ f with b := f.b.extract (rdF f.b f.most).no.toNat f.b.size }, ⟨Fr.zero, false, (rdF f.b f.most).code, (rdF f.b f.most).st⟩)
  else if (rdF f.b f.most).no = 0 then (f, ⟨Fr.zero, false, 0, 0⟩)
  else ({ f with b := f.b.extract (rdF f.b f.most).no.toNat f.b.size }, ⟨(rdF f.b f.most).fr, true, 0, 0⟩)
/-- What waits differs from the preface. -/
def badB (f : Dc) : Bool := !((f.b.extract 0 (min prefaceB.size f.b.size)).toList == (prefaceB.extract 0 (min prefaceB.size f.b.size)).toList)
def nextD (f : Dc) : Dc × Nx :=
  if f.code ≠ 0 then (f, ⟨Fr.zero, false, f.code, f.st⟩)
  else if f.gr = false then restD f
  else if badB f = true then ({ f with b := ByteArray.empty, code := 1, st := 0 }, ⟨Fr.zero, false, 1, 0⟩)
  else if f.b.size < prefaceB.size then (f, ⟨Fr.zero, false, 0, 0⟩)
  else restD { f with b := f.b.extract prefaceB.size f.b.size, gr := false }
theorem rdF_none (b : ByteArray) (most : Int) (h1 : (rdF b most).no = 0) (h2 : (rdF b most).code = 0) : (rdF b most).fr = Fr.zero := by
  unfold rdF at *
  split at h1
  · rename_i h; rw [if_pos h]; rfl
  rename_i h; rw [if_neg h] at h2 ⊢
  split at h1
  · rename_i h; rw [if_pos h]; rfl
  rename_i h; rw [if_neg h] at h2 ⊢
  split at h1
  · rename_i h; rw [if_pos h]; rfl
  rename_i h; rw [if_neg h] at h2 ⊢
  have hn0 : 0 ≤ rdN b := (num_bd _).1
  unfold rdRest at *
  split at h1
  · rename_i h; rw [if_pos h]; rfl
  rename_i h; rw [if_neg h] at h2 ⊢
  split at h1
  · rename_i h; rw [if_pos h]; rfl
  rename_i h; rw [if_neg h] at h2 ⊢
  split at h1
  · rename_i h; rw [if_pos h]; rfl
  rename_i h; rw [if_neg h] at h2 ⊢
  split at h1
  · rename_i ht
    split at h1
    · have h1 : 9 + rdN b = 0 := h1
      omega
    · rename_i h; simp only [ht, if_neg h]; rfl
  · have h1 : 9 + rdN b = 0 := h1
    omega
theorem ext_all (b : ByteArray) : b.extract 0 b.size = b := by
  apply ByteArray.ext
  simp
theorem brB_no {f : Fd} (h1 : f.code = 0) (h2 : f.st = 0) : brB f = false := by unfold brB; rw [h1, h2]; rfl
theorem brB_yes {f : Fd} (h1 : f.code ≠ 0) : brB f = true := by unfold brB; simp [h1]
theorem doneF_no {f : Fd} {r : Nx} (h1 : f.code = 0) (h2 : f.st = 0) : doneF f r = (f, r) := by unfold doneF; rw [if_neg (by rw [brB_no h1 h2]; decide)]
theorem doneF_yes {f : Fd} {r : Nx} (h1 : f.code ≠ 0) : doneF f r = ({ f with wt := ByteArray.empty }, ⟨Fr.zero, false, f.code, f.st⟩) := by unfold doneF; rw [if_pos (brB_yes h1)]
/-- The rest of the program's Next. -/
def restF (f : Fd) : Fd × Nx :=
  if (rdF f.wt f.most).code ≠ 0 ∧ (rdF f.wt f.most).st = 0 then doneF { f with code := (rdF f.wt f.most).code, st := 0 } ⟨Fr.zero, false, (rdF f.wt f.most).code, 0⟩
  else if (rdF f.wt f.most).code ≠ 0 then doneF { f with wt := f.wt.extract (rdF f.wt f.most).no.toNat f.wt.size } ⟨Fr.zero, false, (rdF f.wt f.most).code, (rdF f.wt f.most).st⟩
  else doneF { f with wt := f.wt.extract (rdF f.wt f.most).no.toNat f.wt.size } ⟨(rdF f.wt f.most).fr, decide (0 < (rdF f.wt f.most).no), 0, 0⟩
theorem nextF_rest (f : Fd) (h1 : brB f = false) (h2 : (begunF f).1 = true) : nextF f = restF (begunF f).2 := by
  unfold nextF restF
  rw [if_neg (by rw [h1]; decide), if_neg (by rw [h2]; decide)]
theorem rest_same (f : Dc) (h0 : f.code = 0) (hs : f.st = 0) : restF f.fd = ((restD f).1.fd, (restD f).2) ∧ (restD f).1.Ok := by
  have hw : f.fd.wt = f.b := rfl
  have hm : f.fd.most = f.most := rfl
  have hno := rdF_no f.b f.most
  have hnone := rdF_none f.b f.most
  unfold restF restD
  rw [hw, hm]
  by_cases c1 : (rdF f.b f.most).code ≠ 0 ∧ (rdF f.b f.most).st = 0
  · rw [if_pos c1, if_pos c1]
    rw [doneF_yes (by exact c1.1), c1.2]
    exact ⟨rfl, rfl, fun _ => rfl⟩
  · rw [if_neg c1, if_neg c1]
    by_cases c2 : (rdF f.b f.most).code ≠ 0
    · rw [if_pos c2, if_pos c2]
      rw [doneF_no (by exact h0) (by exact hs)]
      exact ⟨rfl, hs, fun h => absurd h0 h⟩
    · rw [if_neg c2, if_neg c2]
      rw [doneF_no (by exact h0) (by exact hs)]
      by_cases c3 : (rdF f.b f.most).no = 0
      · rw [if_pos c3, hnone c3 (by omega), c3]
        refine ⟨?_, hs, fun h => absurd h0 h⟩
        show ({ f.fd with wt := f.b.extract 0 f.b.size }, (⟨Fr.zero, decide ((0 : Int) < 0), 0, 0⟩ : Nx)) = _
        rw [ext_all]
        rfl
      · rw [if_neg c3, decide_eq_true (show 0 < (rdF f.b f.most).no by omega)]
        exact ⟨rfl, hs, fun h => absurd h0 h⟩
theorem next_same (f : Dc) (h : f.Ok) : nextF f.fd = ((nextD f).1.fd, (nextD f).2) ∧ (nextD f).1.Ok := by
  obtain ⟨hs, hb⟩ := h
  unfold nextD
  by_cases h0 : f.code = 0
  · rw [if_neg (by simp [h0])]
    have hbr : brB f.fd = false := brB_no h0 hs
    cases hg : f.gr
    · rw [if_pos rfl]
      have hpf : f.fd.pf = ByteArray.empty := by unfold Dc.fd; simp [hg]
      have hbg : begunF f.fd = (true, f.fd) := by
        unfold begunF
        rw [hpf]
        have e0 : ByteArray.empty.size = 0 := rfl
        rw [e0, Nat.zero_min, if_neg (by simp), if_neg (by omega)]
        have hw : f.fd.wt.extract 0 f.fd.wt.size = f.fd.wt := ext_all _
        rw [hw, ← hpf]
      rw [nextF_rest _ hbr (by rw [hbg]), hbg]
      exact rest_same f h0 hs
    · rw [if_neg (by decide)]
      have hpf : f.fd.pf = prefaceB := by unfold Dc.fd; simp [hg]
      have hw : f.fd.wt = f.b := rfl
      by_cases c1 : badB f = true
      · rw [if_pos c1]
        have hbg : begunF f.fd = (false, { f.fd with code := 1, st := 0 }) := by
          unfold begunF
          rw [hpf, hw, if_pos (by unfold badB at c1; simpa using c1), ← hpf, ← hw]
        unfold nextF
        rw [if_neg (by rw [hbr]; decide), hbg, if_pos rfl]
        rw [doneF_yes (by show (1 : Int) ≠ 0; decide)]
        exact ⟨by simp [Dc.fd, hg], rfl, fun _ => rfl⟩
      · rw [if_neg c1]
        have c1' : ¬ (((f.b.extract 0 (min prefaceB.size f.b.size)).toList == (prefaceB.extract 0 (min prefaceB.size f.b.size)).toList) = false) := by unfold badB at c1; simpa using c1
        by_cases c2 : f.b.size < prefaceB.size
        · rw [if_pos c2]
          have hbg : begunF f.fd = (false, f.fd) := by
            unfold begunF
            rw [hpf, hw, if_neg c1', if_pos c2]
          unfold nextF
          rw [if_neg (by rw [hbr]; decide), hbg, if_pos rfl]
          rw [doneF_no (by exact h0) (by exact hs)]
          exact ⟨rfl, hs, hb⟩
        · rw [if_neg c2]
          have hbg : begunF f.fd = (true, ({ f with b := f.b.extract prefaceB.size f.b.size, gr := false } : Dc).fd) := by
            unfold begunF
            rw [hpf, hw, if_neg c1', if_neg c2]
            rfl
          rw [nextF_rest _ hbr (by rw [hbg]), hbg]
          exact rest_same _ h0 hs
  · rw [if_pos h0]
    have hbr : brB f.fd = true := brB_yes h0
    unfold nextF doneF
    rw [if_pos hbr, if_pos hbr]
    refine ⟨?_, hs, hb⟩
    show (({ f.fd with wt := ByteArray.empty } : Fd), (⟨Fr.zero, false, f.code, f.st⟩ : Nx)) = _
    rw [← hb h0]
    rfl
end Go.Proofs.YtoffhlbdfhhhjaaDoor.Fr
