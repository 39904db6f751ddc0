/- A feed of frames that were written: what it holds, what it tells: plain facts. No condition. -/
import Derived.Test.YtoffhlbdfhhhjaaDoorMFdQ
namespace Go.Proofs.YtoffhlbdfhhhjaaDoor.Fr
open Go Go.RowKit Go.Proofs.YtoffhlbdfhhhjaaDoorW.PrintWords Go.Proofs.YtoffhlbdfhhhjaaDoorW.PrintLast Go.Proofs.YtoffhlbdfhhhjaaDoorW.PrintMore Go.Proofs.YtoffhlbdfhhhjaaDoor.QL
set_option linter.unusedSimpArgs false
set_option linter.unusedVariables false
set_option maxHeartbeats 4000000
set_option maxRecDepth 100000
theorem app_list (a b : ByteArray) : (a ++ b).data.toList = a.data.toList ++ b.data.toList := by rw [ByteArray.data_append, Array.toList_append]
/-- A feed that waits for the preface pre, and holds it, and behind it T. -/
structure InF (f : Fd) (pre : ByteArray) (T : List UInt8) : Prop where
  most : f.most = 65536
  pf : f.pf = pre
  code : f.code = 0
  st : f.st = 0
  wt : f.wt.data.toList = pre.data.toList ++ T
theorem InF.size {f : Fd} {pre : ByteArray} {T : List UInt8} (h : InF f pre T) : f.wt.size = pre.size + T.length := by rw [ba_size, h.wt, List.length_append, ← ba_size]
theorem InF.br {f : Fd} {pre : ByteArray} {T : List UInt8} (h : InF f pre T) : brB f = false := by unfold brB; rw [h.code, h.st]; rfl
theorem InF.push {f : Fd} {pre : ByteArray} {T : List UInt8} (h : InF f pre T) (s : ByteArray) : InF (pushF f s) pre (T ++ s.data.toList) := by
  unfold pushF
  rw [if_neg (by rw [h.br]; decide)]
  exact ⟨h.most, h.pf, h.code, h.st, by show (f.wt ++ s).data.toList = _; rw [app_list, h.wt, List.append_assoc]⟩
theorem in_new (server : Bool) : InF (if server = true then pushF (newF true 65536) prefaceB else newF false 65536) (if server = true then prefaceB else ByteArray.empty) [] := by
  cases server
  · exact ⟨rfl, rfl, rfl, rfl, rfl⟩
  · exact ⟨rfl, rfl, rfl, rfl, by kernel_rfl⟩
theorem InF.begun {f : Fd} {pre : ByteArray} {T : List UInt8} (h : InF f pre T) : ∃ f', begunF f = (true, f') ∧ InF f' ByteArray.empty T ∧ f'.wt.data.toList = T := by
  have hl := h.size
  have h0 : min f.pf.size f.wt.size = pre.size := by rw [h.pf]; omega
  have he : ((f.wt.extract 0 (min f.pf.size f.wt.size)).toList == (f.pf.extract 0 (min f.pf.size f.wt.size)).toList) = true := by
    rw [h0, h.pf]
    apply beq_iff_eq.mpr
    rw [ByteArray.toList_eq, ByteArray.toList_eq, ex_list, ex_list, h.wt, List.drop_zero, List.drop_zero, Nat.sub_zero, List.take_append_of_le_length (by rw [ba_size]; exact Nat.le_refl _)]
  have e : (f.wt.extract f.pf.size f.wt.size).data.toList = T := by
    rw [list_extract, h.wt, h.pf, ba_size, List.drop_append_of_le_length (Nat.le_refl _), List.drop_of_length_le (Nat.le_refl _), List.nil_append]
  refine ⟨{ f with wt := f.wt.extract f.pf.size f.wt.size, pf := ByteArray.empty }, ?_, ⟨h.most, rfl, h.code, h.st, ?_⟩, e⟩
  · unfold begunF
    rw [if_neg (by rw [he]; decide), if_neg (by rw [h.pf]; omega)]
  · show (f.wt.extract f.pf.size f.wt.size).data.toList = [] ++ T
    rw [e]
    rfl
theorem InF.next {f : Fd} {pre : ByteArray} {T : List UInt8} (h : InF f pre T) (R : Rd) (hR : ∀ t : ByteArray, t.data.toList = T → rdF t 65536 = R) (hc : R.code = 0) (k : Nat) (hk : R.no = k) : ∃ f', nextF f = (f', ⟨R.fr, decide (0 < R.no), 0, 0⟩) ∧ InF f' ByteArray.empty (T.drop k) := by
  obtain ⟨f1, e1, i1, w1⟩ := h.begun
  have hb := h.br
  have hr : rdF f1.wt f1.most = R := by rw [i1.most]; exact hR _ w1
  refine ⟨{ f1 with wt := f1.wt.extract R.no.toNat f1.wt.size }, ?_, ⟨i1.most, i1.pf, i1.code, i1.st, ?_⟩⟩
  · unfold nextF
    rw [if_neg (by rw [hb]; decide), e1, if_neg (show ¬ ((true, f1) : Bool × Fd).1 = false from fun h => by cases h)]
    have e : rdF ((true, f1) : Bool × Fd).2.wt ((true, f1) : Bool × Fd).2.most = R := hr
    rw [e, if_neg (fun q => q.1 hc), if_neg (fun q => q hc)]
    unfold doneF
    rw [if_neg]
    show ¬ brB { f1 with wt := f1.wt.extract R.no.toNat f1.wt.size } = true
    have : brB { f1 with wt := f1.wt.extract R.no.toNat f1.wt.size } = brB f1 := rfl
    rw [this, i1.br]
    decide
  · show (f1.wt.extract R.no.toNat f1.wt.size).data.toList = [] ++ T.drop k
    rw [list_extract, w1, hk]
    rfl
/-- What Write has made of a frame. -/
theorem wr_ok {x : Fr} {L : List UInt8} (h : wr x = (0, L)) : rightB x = true ∧ (payB x).length ≤ 65536 ∧ L = headL x (payB x).length ++ payB x := by
  unfold wr at h
  split at h
  · rename_i hr
    split at h
    · cases h
    · rename_i hl
      injection h with _ h2
      exact ⟨hr, by omega, h2.symm⟩
  · cases h
theorem wr_len {x : Fr} {L : List UInt8} (h : wr x = (0, L)) : 9 ≤ L.length ∧ L.length ≤ 65545 := by
  obtain ⟨_, h2, rfl⟩ := wr_ok h
  rw [List.length_append, headL_length]
  omega
theorem InF.told {f : Fd} {pre : ByteArray} {r L : List UInt8} {x : Fr} (hx : wr x = (0, L)) (h0 : -9223372036854775808 ≤ x.fl) (h1 : x.fl ≤ 9223372036854775807) (h : InF f pre (L ++ r)) : ∃ f', nextF f = (f', ⟨x, true, 0, 0⟩) ∧ InF f' ByteArray.empty r := by
  obtain ⟨hr, hl, rfl⟩ := wr_ok hx
  obtain ⟨f', e, i⟩ := h.next ⟨x, 9 + ((payB x).length : Nat), 0, 0⟩ (fun t ht => read_back x hr (right_fl hr h0 h1) (payB x).length rfl 65536 (by omega) t r (by rw [ht, List.append_assoc])) rfl (9 + (payB x).length) (by show (9 : Int) + ((payB x).length : Int) = _; omega)
  refine ⟨f', ?_, ?_⟩
  · rw [e]
    congr 2
    exact decide_eq_true (by show (0 : Int) < 9 + ((payB x).length : Int); omega)
  · rw [List.drop_append_of_le_length (by rw [List.length_append, headL_length]; omega), List.drop_of_length_le (by rw [List.length_append, headL_length]; omega), List.nil_append] at i
    exact i
theorem InF.quiet {f : Fd} {pre : ByteArray} {T : List UInt8} (h : InF f pre T) (hR : ∀ t : ByteArray, t.data.toList = T → rdF t 65536 = .bad 0) : ∃ f', nextF f = (f', ⟨Fr.zero, false, 0, 0⟩) ∧ InF f' ByteArray.empty T := by
  obtain ⟨f', e, i⟩ := h.next (.bad 0) hR rfl 0 rfl
  exact ⟨f', e, i⟩
theorem InF.part {f : Fd} {pre : ByteArray} {L : List UInt8} {x : Fr} {k : Nat} (hx : wr x = (0, L)) (h0 : -9223372036854775808 ≤ x.fl) (h1 : x.fl ≤ 9223372036854775807) (hk : k < L.length) (h : InF f pre (L.take k)) : ∃ f', nextF f = (f', ⟨Fr.zero, false, 0, 0⟩) ∧ InF f' ByteArray.empty (L.take k) := by
  obtain ⟨hr, hl, rfl⟩ := wr_ok hx
  refine h.quiet fun t ht => ?_
  by_cases h9 : k < 9
  · exact read_head t 65536 (by rw [ba_size, ht, List.length_take]; omega)
  · refine read_cut x hr (right_fl hr h0 h1) (payB x).length (by omega) 65536 (by omega) t ((payB x).take (k - 9)) ?_ ?_
    · rw [List.length_append, headL_length] at hk
      rw [List.length_take]
      omega
    · rw [ht, List.take_append, headL_length, List.take_of_length_le (by rw [headL_length]; omega)]
theorem InF.none {f : Fd} {pre : ByteArray} (h : InF f pre []) : ∃ f', nextF f = (f', ⟨Fr.zero, false, 0, 0⟩) ∧ InF f' ByteArray.empty [] :=
  h.quiet fun t ht => read_head t 65536 (by rw [ba_size, ht]; decide)
/-- The bytes of frames. -/
def wrs (l : List Fr) : List UInt8 := l.flatMap fun f => (wr f).2
/-- Those that can be written. -/
def okF (l : List Fr) : List Fr := l.filter fun f => (wr f).1 == 0
theorem okF_step (l : List Fr) (i : Nat) (x : Fr) (h : l[i]? = some x) : okF (l.take (i + 1)) = okF (l.take i) ++ (if (wr x).1 = 0 then [x] else []) := by
  unfold okF
  rw [List.take_add_one, h, List.filter_append]
  congr 1
  show List.filter _ [x] = _
  by_cases hx : (wr x).1 = 0
  · rw [if_pos hx]
    simp [hx]
  · rw [if_neg hx]
    simp [hx]
theorem wrs_app (a b : List Fr) : wrs (a ++ b) = wrs a ++ wrs b := by unfold wrs; rw [List.flatMap_append]
theorem wr_two (x : Fr) (h : (wr x).1 = 0) : wr x = (0, (wr x).2) := by
  cases e : wr x
  rw [e] at h
  simp only at h
  rw [h]
theorem wr_no (x : Fr) (h : (wr x).1 ≠ 0) : (wr x).2 = [] := by
  unfold wr at h ⊢
  split
  · rename_i hr
    split
    · rfl
    · rename_i hl
      rw [if_pos hr, if_neg hl] at h
      exact absurd rfl h
  · rfl
end Go.Proofs.YtoffhlbdfhhhjaaDoor.Fr
