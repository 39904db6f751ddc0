/- Plain facts for FeedApart: a settings frame written and told again, three times over. No condition. -/
import Derived.Test.YtoffhlbdfhhhjaaDoorMFdQ
namespace Go.Proofs.YtoffhlbdfhhhjaaDoor.Fr
open Go Go.RowKit Go.Proofs.YtoffhlbdfhhhjaaDoorW.PrintWords Go.Proofs.YtoffhlbdfhhhjaaDoorW.PrintLast Go.Proofs.YtoffhlbdfhhhjaaDoorW.PrintMore Go.Proofs.YtoffhlbdfhhhjaaDoor.QL
set_option linter.unusedSimpArgs false
set_option linter.unusedVariables false
set_option maxRecDepth 100000
/-- The settings that FeedApart makes. -/
def few50 (l : List S32) : List S32 := (⟨4, 100⟩ : S32) :: (l.take 50).map few1
def setF (P : List S32) : Fr := ⟨4, 0, 0, ByteArray.empty, 0, 0, false, 0, 0, 0, P⟩
def ParL (P : List S32) : Prop := (P.all fun p => inR p.f0 0 65535 && inR p.f1 0 4294967295) = true
theorem few50_par (l : List S32) : ParL (few50 l) := by
  unfold ParL few50
  rw [List.all_cons, List.all_eq_true.2]
  · rfl
  · intro p hp
    obtain ⟨q, _, rfl⟩ := List.mem_map.1 hp
    have h0 : 0 ≤ Go.bits .and .i64 q.f0 65535 ∧ Go.bits .and .i64 q.f0 65535 ≤ 65535 := and_le q.f0 65535 (by decide)
    have h1 : 0 ≤ Go.bits .and .i64 q.f1 4294967295 ∧ Go.bits .and .i64 q.f1 4294967295 ≤ 4294967295 := and_le q.f1 4294967295 (by decide)
    show (inR (Go.bits .and .i64 q.f0 65535) 0 65535 && inR (Go.bits .and .i64 q.f1 4294967295) 0 4294967295) = true
    rw [inR_of h0.1 h0.2, inR_of h1.1 h1.2]
    rfl
theorem few50_len (l : List S32) : (few50 l).length ≤ 51 ∧ 0 < (few50 l).length := by
  unfold few50
  rw [List.length_cons, List.length_map, List.length_take]
  omega
theorem few50_step (l : List S32) (i : Nat) (h : i < l.length) : (⟨4, 100⟩ : S32) :: (l.take (i + 1)).map few1 = ((⟨4, 100⟩ : S32) :: (l.take i).map few1) ++ [few1 l[i]] := by
  rw [List.take_succ_eq_append_getElem h, List.map_append]
  rfl
theorem few50_end (l : List S32) (i : Nat) (h1 : i ≤ l.length) (h2 : i ≤ 50) (h : l.length ≤ i ∨ 50 ≤ i) : (⟨4, 100⟩ : S32) :: (l.take i).map few1 = few50 l := by
  unfold few50
  congr 2
  rcases h with h | h
  · rw [List.take_of_length_le h, List.take_of_length_le (by omega)]
  · rw [show i = 50 by omega]
theorem setF_right (P : List S32) (h : ParL P) : rightB (setF P) = true := by
  have h1 : parB (setF P) = true := by
    show (!(has 0 1 && decide (0 < P.length)) && P.all fun p => inR p.f0 0 65535 && inR p.f1 0 4294967295) = true
    rw [h, show has 0 1 = false from by decide]
    rfl
  have e0 : headB (setF P) = true := by
    show (inR 4 0 255 && (Go.bits .andNot .i64 0 (kFl 4) == 0) && inR 0 0 2147483647 && stB 4 0) = true
    decide
  have e1 : prioB (setF P) = false := by
    show ((4 : Int) == 2 || ((4 : Int) == 1 && has 0 32)) = false
    decide
  have e2 : lenB (setF P) = true := by
    show (!(((4 : Int) == 6 && ByteArray.empty.size != 8) || ((4 : Int) != 4 && decide (0 < P.length)))) = true
    rw [show ((4 : Int) != 4) = false from by decide, show ((4 : Int) == 6) = false from by decide]
    rfl
  have e3 : numB (setF P) = true := by
    show (inR 0 0 255 && inR 0 0 2147483647 && inR 0 0 4294967295 && inR 0 0 2147483647) = true
    decide
  have ep : padB (setF P) = false := by
    show (decide ((4 : Int) < 10) && has 0 8) = false
    decide
  have e4 : sameB (setF P) = true := by
    unfold sameB ownPad ownDep ownEx ownWt ownCo ownLa ownDa
    rw [ep, e1]
    show ((0 : Int) == 0 && (0 : Int) == 0 && false == false && (0 : Int) == 0 && ((if (4 : Int) = 3 ∨ (4 : Int) = 7 then (0 : Int) else 0) == 0) && ((if (4 : Int) = 8 ∨ (4 : Int) = 7 ∨ (4 : Int) = 5 then (0 : Int) else 0) == 0) && ((if (4 : Int) = 3 ∨ (4 : Int) = 4 ∨ (4 : Int) = 2 ∨ (4 : Int) = 8 then ByteArray.empty else ByteArray.empty).toList == ByteArray.empty.toList)) = true
    rw [if_pos (show (4 : Int) = 3 ∨ (4 : Int) = 4 ∨ (4 : Int) = 2 ∨ (4 : Int) = 8 from by decide), show (ByteArray.empty.toList == ByteArray.empty.toList) = true from beq_self_eq_true _]
    decide
  unfold rightB
  rw [h1, e0, e1, e2, e3, e4]
  rfl
theorem setF_pay (P : List S32) : payB (setF P) = params P := by
  have ep : padB (setF P) = false := by
    show (decide ((4 : Int) < 10) && has 0 8) = false
    decide
  unfold payB
  rw [ep]
  have e : layB (setF P) = params P := by
    unfold layB
    rw [if_neg (by show ¬ (4 : Int) = 1; decide), if_neg (by show ¬ (4 : Int) = 2; decide), if_neg (by show ¬ (4 : Int) = 3; decide), if_pos (show (setF P).ty = 4 from rfl)]
    rfl
  rw [e]
  simp [setF]
theorem setF_len (P : List S32) : (payB (setF P)).length = 6 * P.length := by rw [setF_pay, params_length]
def setB (P : List S32) : ByteArray := ⟨(headL (setF P) (6 * P.length) ++ payB (setF P)).toArray⟩
theorem setF_wr (P : List S32) (h : ParL P) (hl : P.length ≤ 51) : wr (setF P) = (0, (setB P).data.toList) := wr_bytes (setF P) (setF_right P h) _ (setF_len P) (by omega)
theorem setB_size (P : List S32) : (setB P).size = 9 + 6 * P.length := by
  rw [ba_size]
  show (headL (setF P) (6 * P.length) ++ payB (setF P)).length = _
  rw [List.length_append, headL_length, setF_len]
theorem set_first (P : List S32) (hP : ParL P) (hl : P.length ≤ 51) (t : ByteArray) (r : List UInt8) (h : t.data.toList = (setB P).data.toList ++ r) : ∃ t' : ByteArray, t'.data.toList = r ∧ nextF (fdW t) = (fdW t', ⟨setF P, true, 0, 0⟩) := by
  have hr : rdF t 16384 = ⟨setF P, 9 + ((6 * P.length : Nat) : Int), 0, 0⟩ := read_back (setF P) (setF_right P hP) ⟨by show Go.bits .and .i64 0 (kFl 4) = 0; decide, by show (0 : Int) ≤ 0; decide, by show (0 : Int) ≤ 255; decide⟩ (6 * P.length) (setF_len P) 16384 (by omega) t r (by rw [h, ← List.append_assoc]; rfl)
  refine ⟨t.extract (9 + 6 * P.length) t.size, tail_n t _ _ r h (by rw [← ba_size, setB_size]), ?_⟩
  rw [fdW_next t _ hr (by rintro ⟨q, _⟩; exact q rfl), if_neg (by intro q; exact q rfl)]
  show (fdW (t.extract (9 + ((6 * P.length : Nat) : Int)).toNat t.size), _) = _
  rw [show (9 + ((6 * P.length : Nat) : Int)).toNat = 9 + 6 * P.length by omega]
  congr 2
  exact decide_eq_true (by show (0 : Int) < 9 + ((6 * P.length : Nat) : Int); omega)
end Go.Proofs.YtoffhlbdfhhhjaaDoor.Fr
