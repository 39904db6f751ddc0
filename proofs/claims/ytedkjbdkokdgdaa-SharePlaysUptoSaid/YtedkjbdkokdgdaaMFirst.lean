/- The laws' first answers, same, and small facts of rows. The memory is as it was but for what is new. -/
import Derived.Test.YtedkjbdkokdgdaaMReady
import Derived.Test.YtedkjbdkokdgdaaMShareN
import Derived.Test.YtedkjbdkokdgdaaQLx1
namespace Go.Proofs.Ytedkjbdkokdgdaa.Sh
open Go Go.RowKit Go.Proofs.YtedkjbdkokdgdaaW.PrintWords Go.Proofs.YtedkjbdkokdgdaaW.PrintLast Go.Proofs.YtedkjbdkokdgdaaW.PrintMore Go.Proofs.Ytedkjbdkokdgdaa.QL
set_option linter.unusedSimpArgs false
set_option linter.unusedVariables false
set_option maxHeartbeats 4000000
set_option maxRecDepth 100000
theorem add_zero_blk (g k : Nat) : (⟨g, 0, none⟩ : Addr).add k = ⟨g, k, none⟩ := by
  unfold Addr.add
  by_cases h : k = 0
  · subst h; rfl
  · simp [h]
/-- A block that holds whole numbers reads as a row of them. -/
theorem C_int_blk {w : World} {g : Nat} {t : TypeId} {xs : List Int} {cs : Array Value} (h : w.heap[g]? = some (.cells cs t (0, 0))) (hc : cs = (xs.map (Value.int .i64)).toArray) (hl : xs.length ≤ 9223372036854775807) : Kd.C (Kd.int .i64) w (some ⟨g, 0, none⟩) xs.length xs := by
  refine ⟨rfl, hl, fun _ => ⟨_, rfl, fun j p hp => ⟨[.int .i64 p], rfl, rfl, fun i u hu => ?_⟩⟩⟩
  have hi : i = 0 := by
    cases i with
    | zero => rfl
    | succ i => simp at hu
  subst hi
  obtain rfl : Value.int .i64 p = u := by simpa using hu
  show w.cell? ((⟨g, 0, none⟩ : Addr).add (j * 1 + 0)) = _
  rw [add_zero_blk, blk_cell h, hc]
  simp [hp]
theorem C_50_one {w : World} {g : Nat} {t : TypeId} {a b : Int} (h : w.heap[g]? = some (.cells #[.int .i64 a, .int .i64 b] t (0, 0))) : Kd.C k50 w (some ⟨g, 0, none⟩) 1 [⟨a, b⟩] := by
  refine ⟨rfl, by omega, fun _ => ⟨_, rfl, fun j p hp => ?_⟩⟩
  have hj : j = 0 := by
    cases j with
    | zero => rfl
    | succ j => simp at hp
  subst hj
  obtain rfl : (⟨a, b⟩ : S50) = p := by simpa using hp
  refine ⟨_, rfl, k50_mk w ⟨a, b⟩, fun i u hu => ?_⟩
  rw [add_zero_blk, blk_cell h]
  simpa using hu
theorem C_50_two {w : World} {g : Nat} {t : TypeId} {a b c d : Int} (h : w.heap[g]? = some (.cells #[.int .i64 a, .int .i64 b, .int .i64 c, .int .i64 d] t (0, 0))) : Kd.C k50 w (some ⟨g, 0, none⟩) 2 [⟨a, b⟩, ⟨c, d⟩] := by
  refine ⟨rfl, by omega, fun _ => ⟨_, rfl, fun j p hp => ?_⟩⟩
  match j, hp with
  | 0, hp =>
    obtain rfl : (⟨a, b⟩ : S50) = p := by simpa using hp
    refine ⟨_, rfl, k50_mk w ⟨a, b⟩, fun i u hu => ?_⟩
    rw [add_zero_blk, blk_cell h]
    match i, hu with
    | 0, hu => simpa using hu
    | 1, hu => simpa using hu
    | (i + 2), hu => simp at hu
  | 1, hp =>
    obtain rfl : (⟨c, d⟩ : S50) = p := by simpa using hp
    refine ⟨_, rfl, k50_mk w ⟨c, d⟩, fun i u hu => ?_⟩
    rw [add_zero_blk, blk_cell h]
    have e : k50.sz = 2 := rfl
    rw [e]
    match i, hu with
    | 0, hu => simpa using hu
    | 1, hu => simpa using hu
    | (i + 2), hu => simp at hu
  | (j + 2), hp => simp at hp
/-- Rising lists with the same numbers are one. -/
theorem sorted_ext : ∀ {a b : List Int}, a.Pairwise (· < ·) → b.Pairwise (· < ·) → (∀ x, x ∈ a ↔ x ∈ b) → a = b
  | [], [], _, _, _ => rfl
  | [], y :: b, _, _, h => absurd ((h y).2 List.mem_cons_self) (by simp)
  | x :: a, [], _, _, h => absurd ((h x).1 List.mem_cons_self) (by simp)
  | x :: a, y :: b, ha, hb, h => by
    obtain ⟨ha1, ha2⟩ := List.pairwise_cons.1 ha
    obtain ⟨hb1, hb2⟩ := List.pairwise_cons.1 hb
    have e : x = y := by
      have h1 := (h x).1 List.mem_cons_self
      have h2 := (h y).2 List.mem_cons_self
      rcases List.mem_cons.1 h1 with h1 | h1
      · exact h1
      rcases List.mem_cons.1 h2 with h2 | h2
      · exact h2.symm
      have := ha1 y h2
      have := hb1 x h1
      omega
    subst e
    rw [sorted_ext ha2 hb2 (fun z => ?_)]
    have hz := h z
    simp only [List.mem_cons] at hz
    constructor
    · intro hm
      rcases hz.1 (Or.inr hm) with e | h'
      · subst e
        have := ha1 z hm
        omega
      · exact h'
    · intro hm
      rcases hz.2 (Or.inr hm) with e | h'
      · subst e
        have := hb1 z hm
        omega
      · exact h'
theorem RdyL.uniq {m : Int → Qu} {conn : Int} {l : List S50} {a b : List Int} (h : RdyL m conn l a) (k : RdyL m conn l b) : a = b := sorted_ext h.1 k.1 (fun x => (h.2 x).trans (k.2 x).symm)
theorem bare_eq (s : ByteArray) : bare s = s.data.toList.isEmpty := by unfold bare; rw [ByteArray.toList_eq]
theorem empty_app (s : ByteArray) : ByteArray.empty ++ s = s := by
  apply ByteArray.ext
  simp
def hello : ByteArray := ⟨#[104, 101, 108, 108, 111]⟩
def m0 : Int → Qu := fun _ => Qu.zero
def m1 : Int → Qu := updM m0 1 ⟨hello, false, false⟩
def m2 : Int → Qu := updM m1 3 ⟨ByteArray.empty, true, true⟩
theorem put1 : putF m0 1 hello false = (0, m1) := by
  unfold putF
  rw [if_neg (by omega), if_neg (by decide)]
  show (0, updM m0 1 ⟨ByteArray.empty ++ hello, false, false⟩) = _
  rw [empty_app]
  rfl
theorem put2 : putF m1 3 ByteArray.empty true = (0, m2) := by
  unfold putF
  rw [if_neg (by omega), if_neg (by decide)]
  show (0, updM m1 3 ⟨ByteArray.empty ++ ByteArray.empty, true, true⟩) = _
  rw [empty_app]
  rfl
theorem m2_1 : m2 1 = ⟨hello, false, false⟩ := rfl
theorem m2_3 : m2 3 = ⟨ByteArray.empty, true, true⟩ := rfl
theorem m2_else {id : Int} (h1 : id ≠ 1) (h3 : id ≠ 3) : m2 id = Qu.zero := by
  show updM m1 3 _ id = _
  unfold updM
  rw [if_neg h3]
  show updM m0 1 _ id = _
  unfold updM
  rw [if_neg h1]
  rfl
theorem hello_ne : hello.toList.isEmpty = false := by rw [ByteArray.toList_eq]; rfl
theorem empty_is : ByteArray.empty.toList.isEmpty = true := by rw [ByteArray.toList_eq]; rfl
theorem first_rdy : RdyL m2 9 [⟨1, 2⟩, ⟨1, 0⟩] [1, 3] := by
  refine ⟨by decide, fun id => ?_⟩
  unfold rdyB
  by_cases h1 : id = 1
  · subst h1
    rw [m2_1, if_neg (by rw [hello_ne]; decide)]
    decide
  by_cases h3 : id = 3
  · subst h3
    rw [m2_3, if_pos empty_is]
    decide
  rw [m2_else h1 h3, if_pos zero_t]
  simp [h1, h3, Qu.zero]
theorem first_next : (nextF m2 1 9 2 100).1 = ⟨⟨#[104, 101]⟩, false, 0⟩ := by
  unfold nextF
  rw [m2_1]
  simp only [bare_eq]
  rw [if_neg (by omega), if_neg (by decide), if_neg (by decide)]
  rfl
theorem first_wait : (nextF m2 1 9 2 100).2 3 = ⟨ByteArray.empty, true, true⟩ := by
  unfold nextF
  rw [m2_1]
  simp only [bare_eq]
  rw [if_neg (by omega), if_neg (by decide), if_neg (by decide)]
  rfl
end Go.Proofs.Ytedkjbdkokdgdaa.Sh
