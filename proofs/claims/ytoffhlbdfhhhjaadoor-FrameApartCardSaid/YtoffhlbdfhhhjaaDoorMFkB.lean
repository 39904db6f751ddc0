/- Settings frames written and read again, as calls. The package's variable holds what the program lays. -/
import Derived.Test.YtoffhlbdfhhhjaaDoorMFg4
import Derived.Test.YtoffhlbdfhhhjaaDoorMFg7
namespace Go.Proofs.YtoffhlbdfhhhjaaDoor.Fr
open Go Go.RowKit Go.Proofs.YtoffhlbdfhhhjaaDoorW.PrintWords Go.Proofs.YtoffhlbdfhhhjaaDoorW.PrintLast Go.Proofs.YtoffhlbdfhhhjaaDoorW.PrintMore Go.Proofs.YtoffhlbdfhhhjaaDoor.QL
set_option linter.unusedSimpArgs false
set_option linter.unusedVariables false
set_option maxRecDepth 100000
def setF (P : List S32) : Fr := ⟨4, 0, 0, ByteArray.empty, 0, 0, false, 0, 0, 0, P⟩
def ParL (P : List S32) : Prop := (P.all fun p => inR p.f0 0 65535 && inR p.f1 0 4294967295) = true
theorem setF_right (P : List S32) (h : ParL P) : rightB (setF P) = true := by
  have h1 : parB (setF P) = true := by
    show (!(has 0 1 && decide (0 < P.length)) && P.all fun p => inR p.f0 0 65535 && inR p.f1 0 4294967295) = true
    rw [h, show has 0 1 = false from by decide]
    rfl
  have e0 : headB (setF P) = true := by
    show (inR 4 0 255 && (Go.bits .andNot .i64 0 (kFl 4) == 0) && inR 0 0 2147483647 && stB 4 0) = true
    decide
  have e1 : prioB (setF P) = false := by
    show ((4 : Int) == 2 || ((4 : Int) == 1 && has 0 32)) = false
    decide
  have e2 : lenB (setF P) = true := by
    show (!(((4 : Int) == 6 && ByteArray.empty.size != 8) || ((4 : Int) != 4 && decide (0 < P.length)))) = true
    rw [show ((4 : Int) != 4) = false from by decide, show ((4 : Int) == 6) = false from by decide]
    rfl
  have e3 : numB (setF P) = true := by
    show (inR 0 0 255 && inR 0 0 2147483647 && inR 0 0 4294967295 && inR 0 0 2147483647) = true
    decide
  have ep : padB (setF P) = false := by
    show (decide ((4 : Int) < 10) && has 0 8) = false
    decide
  have e4 : sameB (setF P) = true := by
    unfold sameB ownPad ownDep ownEx ownWt ownCo ownLa ownDa
    rw [ep, e1]
    show ((0 : Int) == 0 && (0 : Int) == 0 && false == false && (0 : Int) == 0 && ((if (4 : Int) = 3 ∨ (4 : Int) = 7 then (0 : Int) else 0) == 0) && ((if (4 : Int) = 8 ∨ (4 : Int) = 7 ∨ (4 : Int) = 5 then (0 : Int) else 0) == 0) && ((if (4 : Int) = 3 ∨ (4 : Int) = 4 ∨ (4 : Int) = 2 ∨ (4 : Int) = 8 then ByteArray.empty else ByteArray.empty).toList == ByteArray.empty.toList)) = true
    rw [if_pos (show (4 : Int) = 3 ∨ (4 : Int) = 4 ∨ (4 : Int) = 2 ∨ (4 : Int) = 8 from by decide), show (ByteArray.empty.toList == ByteArray.empty.toList) = true from beq_self_eq_true _]
    decide
  unfold rightB
  rw [h1, e0, e1, e2, e3, e4]
  rfl
theorem setF_pay (P : List S32) : payB (setF P) = params P := by
  have ep : padB (setF P) = false := by
    show (decide ((4 : Int) < 10) && has 0 8) = false
    decide
  unfold payB
  rw [ep]
  have e : layB (setF P) = params P := by
    unfold layB
    rw [if_neg (by show ¬ (4 : Int) = 1; decide), if_neg (by show ¬ (4 : Int) = 2; decide), if_neg (by show ¬ (4 : Int) = 3; decide), if_pos (show (setF P).ty = 4 from rfl)]
    rfl
  rw [e]
  simp [setF]
theorem setF_len (P : List S32) : (payB (setF P)).length = 6 * P.length := by rw [setF_pay, params_length]
def setB (P : List S32) : ByteArray := ⟨(headL (setF P) (6 * P.length) ++ payB (setF P)).toArray⟩
theorem setF_wr (P : List S32) (h : ParL P) (hl : P.length ≤ 2730) : wr (setF P) = (0, (setB P).data.toList) := wr_bytes (setF P) (setF_right P h) _ (setF_len P) (by omega)
theorem setB_size (P : List S32) : (setB P).size = 9 + 6 * P.length := by
  rw [ba_size]
  show (headL (setF P) (6 * P.length) ++ payB (setF P)).length = _
  rw [List.length_append, headL_length, setF_len]
theorem set_read (P : List S32) (hP : ParL P) (hl : P.length ≤ 2730) : rdF (setB P) 16384 = ⟨setF P, ((setB P).size : Int), 0, 0⟩ := by
  have hr : rdF (setB P) 16384 = ⟨setF P, 9 + ((6 * P.length : Nat) : Int), 0, 0⟩ := read_back (setF P) (setF_right P hP) ⟨by show Go.bits .and .i64 0 (kFl 4) = 0; decide, by show (0 : Int) ≤ 0; decide, by show (0 : Int) ≤ 255; decide⟩ (6 * P.length) (setF_len P) 16384 (by omega) (setB P) [] (by rw [List.append_nil]; rfl)
  rw [hr, setB_size]
  congr 1
theorem write_set (P : List S32) (hp : ParL P) (hl : P.length ≤ 2730) (A : Option Addr) (c : Nat) (W : World) (hG : GL W) (hps : Kd.C k32 W A P.length P) :
    Calls Tryd.prog 16 #[.agg #[.int .i64 4, .int .i64 0, .int .i64 0, .string ByteArray.empty, .int .i64 0, .int .i64 0, .bool false, .int .i64 0, .int .i64 0, .int .i64 0, .slice A P.length c]] W fun e w' => e = .returned (.tuple #[.string (setB P), .int .i64 0]) ∧ Below W.heap.size W w' := by
  have h := write_calls (setF P) A c W hG hps (by show (0 : Nat) ≤ _; exact Nat.zero_le _) (by show P.length * 16 ≤ _; omega)
  rw [setF_wr P hp hl] at h
  exact h
theorem read_set (P : List S32) (hp : ParL P) (hl : P.length ≤ 2730) (s : ByteArray) (hs : setB P = s) (W : World) (hG : GL W) :
    Calls Tryd.prog 20 #[.string s, .int .i64 16384] W fun e w' => ∃ A c, e = .returned (.tuple #[.agg #[.int .i64 4, .int .i64 0, .int .i64 0, .string ByteArray.empty, .int .i64 0, .int .i64 0, .bool false, .int .i64 0, .int .i64 0, .int .i64 0, .slice A P.length c], .int .i64 (s.size : Int), .agg #[.int .i64 0, .int .i64 0]]) ∧ Kd.R k32 32 w' W.heap.size (fun _ => True) (.slice A P.length c) P ∧ Below W.heap.size W w' := by
  subst hs
  have h := read_calls (setB P) 16384 W hG (by rw [setB_size]; omega)
  rw [set_read P hp hl] at h
  exact h
/-- The one setting that FrameApart reads out of a text. -/
def hL : List S32 := [⟨3, 1⟩]
theorem hL_par : ParL hL := rfl
theorem hL_b : setB hL = ⟨#[0, 0, 6, 4, 0, 0, 0, 0, 0, 0, 3, 0, 0, 0, 1]⟩ := by kernel_rfl
end Go.Proofs.YtoffhlbdfhhhjaaDoor.Fr
