/- What the document's window (heraldref09) answers: its number is the sum of what it began with and of all its moves. No condition but that its memory is its own. -/
import Derived.Test.YtbngliommdmnkaaQWindowSumsx1
import Derived.Outline
import Derived.RegionTactic
import Derived.ChangeAlike
namespace Go.Proofs.Ytbngliommdmnkaa.MW
open Go Go.RowKit Go.Proofs.YtbngliommdmnkaaW.PrintWords Go.Proofs.YtbngliommdmnkaaW.PrintLast

set_option linter.unusedSimpArgs false
set_option linter.unusedVariables false
structure RefW (B : Nat) (W : World) (g : Nat) (f : Int) (v : Value) (ms : List Int) : Prop where
  blk : W.heap[g]? = some (.cells #[.int .i64 f, v] 45 (0, 0))
  ge : B ≤ g
  row : W.ownsRow B 2 1 v ms.length (nums .i64 ms)
  ne : some g ≠ v.ownBlock

def lsum (f : Int) (ms : List Int) : Int := ms.foldl (fun n m => wrap64 (n + m)) f
theorem lsum_snoc (f : Int) (ms : List Int) (m : Int) : lsum f (ms ++ [m]) = wrap64 (lsum f ms + m) := by simp [lsum]
theorem lsum_take (f : Int) (ms : List Int) (k : Nat) (h : k < ms.length) : lsum f (ms.take (k + 1)) = wrap64 (lsum f (ms.take k) + rd ms k) := by
  rw [List.take_succ_eq_append_getElem h, lsum_snoc]
  simp [rd, h]

set_option maxHeartbeats 1000000 in
theorem left_ref (B : Nat) (w : World) (g : Nat) (f : Int) (v : Value) (ms : List Int) (h : RefW B w g f v ms) :
    Calls Try.prog 13 #[.pointer (some ⟨g, 0, none⟩)] w fun e w' => e = .returned (.int .i64 (lsum f ms)) ∧ w = w' := by
  obtain ⟨hb, _, hrow, _⟩ := h
  obtain ⟨A, c, rfl, hr⟩ := own_reads hrow
  have hc0 : w.cell? ⟨g, 0, none⟩ = some (.int .i64 f) := blk_cell hb 0
  have hc1 : w.cell? ⟨g, 1, none⟩ = some (.slice A ms.length c) := blk_cell hb 1
  have hl : ms.length ≤ 9223372036854775807 := hr.2.1
  have HR := Aside0.mk hr
  clear hr hb hrow
  go_enter Try.func13, Try.ntmps13
  go_wp2
  go_loop [3, 4] (fun n i => ∃ k : Nat, k ≤ ms.length ∧ i = .int .i64 k ∧ n = .int .i64 (lsum f (ms.take k))) (fun _ i => ms.length - (intOf i).toNat)
  case atStart => exact ⟨0, Nat.zero_le _, rfl, rfl⟩
  case round =>
    obtain ⟨k, hk, rfl, rfl⟩ := hrel
    by_cases hlt : k < ms.length
    · obtain ⟨ad, rfl, hcell⟩ := HR.out.at_ (k : Int) (by omega) (by omega)
      have hcell' : w.cell? (ad.add k) = some (.int .i64 (rd ms k)) := hcell
      clear hcell
      have HS := Aside0.mk (lsum_take f ms k hlt)
      obtain ⟨x, hx⟩ : ∃ x, lsum f (ms.take k) = x := ⟨_, rfl⟩
      have HX := Aside0.mk hx
      rw [hx]
      clear hx
      go_wp2
      go_round
      case rel => exact ⟨k + 1, by omega, by go_num, by rw [HS.out, HX.out]⟩
      case measure => simp [intOf]; omega
    · have hd : decide ((k:Int) < (ms.length:Int)) = false := decide_eq_false (by omega)
      obtain rfl : k = ms.length := by omega
      go_wp2
      go_ret
      exact ⟨rfl, rfl⟩

set_option maxHeartbeats 1000000 in
theorem within_ref (B : Nat) (w : World) (g : Nat) (f : Int) (v : Value) (ms : List Int) (n l : Int) (h : RefW B w g f v ms) :
    Calls Try.prog 22 #[.pointer (some ⟨g, 0, none⟩), .int .i64 n, .int .i64 l] w fun e w' => e = .returned (.bool (decide (¬ (n > 4294967294 ∨ n < -4294967294) ∧ wrap64 (n + lsum f ms) ≥ l ∧ wrap64 (n + lsum f ms) ≤ 2147483647))) ∧ w = w' := by
  by_cases c1 : n > 4294967294
  · have d1 : decide (4294967294 < n) = true := decide_eq_true c1
    go_enter Try.func22, Try.ntmps22
    go_wp2
    go_ret
    exact ⟨by simp [c1], rfl⟩
  · have d1 : decide (4294967294 < n) = false := decide_eq_false c1
    by_cases c2 : n < -4294967294
    · have d2 : decide (n < -4294967294) = true := decide_eq_true c2
      go_enter Try.func22, Try.ntmps22
      go_wp2
      go_ret
      exact ⟨by simp [c2], rfl⟩
    · have d2 : decide (n < -4294967294) = false := decide_eq_false c2
      have HH := Aside0.mk h
      clear h
      obtain ⟨x, hx⟩ : ∃ x, wrap64 (n + lsum f ms) = x := ⟨_, rfl⟩
      rw [hx]
      by_cases c3 : x ≥ l
      · have d3 : decide (l ≤ x) = true := decide_eq_true c3
        go_enter Try.func22, Try.ntmps22
        go_wp2_with (first | (go_at_call 13; refine (left_ref B _ g f v ms HH.out).mono ?_; rintro e w' ⟨rfl, rfl⟩; try rw [hx]))
        go_ret
        exact ⟨by simp [c1, c2, c3, hx], rfl⟩
      · have d3 : decide (l ≤ x) = false := decide_eq_false c3
        go_enter Try.func22, Try.ntmps22
        go_wp2_with (first | (go_at_call 13; refine (left_ref B _ g f v ms HH.out).mono ?_; rintro e w' ⟨rfl, rfl⟩; try rw [hx]))
        go_ret
        exact ⟨by simp [c1, c2, c3, hx]; omega, rfl⟩

/-- Behind a call on the window at g: its row and what was left alone. -/
def RStep (w0 w w' : World) (g : Nat) (f : Int) (v : Value) (ms' : List Int) : Prop :=
  ∃ v', RefW w0.heap.size w' g f v' ms' ∧ KeepBut w w' g v.ownBlock ∧ Below w0.heap.size w0 w' ∧ (v'.ownBlock = v.ownBlock ∨ ∃ b, v'.ownBlock = some b ∧ w.heap.size ≤ b)
theorem RStep.same {w0 w : World} {g : Nat} {f : Int} {v : Value} {ms : List Int} (h : RefW w0.heap.size w g f v ms) (hB : Below w0.heap.size w0 w) : RStep w0 w w g f v ms :=
  ⟨v, h, KeepBut.refl _ _ _, hB, .inl rfl⟩
theorem RStep.push {w0 w w1 : World} {g : Nat} {f n : Int} {v v1 : Value} {ms : List Int} (h : RefW w0.heap.size w g f v ms)
    (h1 : w1.ownsRow w0.heap.size 2 1 v1 (ms.length + 1) (nums .i64 (ms ++ [n]))) (h2 : Below w0.heap.size w0 w1) (h3 : w.grownBy w1 v.ownBlock)
    (h4 : v1.ownBlock = v.ownBlock ∨ ∃ b, v1.ownBlock = some b ∧ w.heap.size ≤ b) :
    RStep w0 w (w1.setCell ⟨g, 1, none⟩ v1) g f v (ms ++ [n]) := by
  have hlt : g < w.heap.size := blk_lt h.blk
  have hne : some g ≠ v1.ownBlock := by
    rcases h4 with h4 | ⟨b, h4, h5⟩
    · rw [h4]; exact h.ne
    · rw [h4]; simp; omega
  have hb1 := blk_grown h.blk h3 h.ne
  refine ⟨v1, ⟨by simpa using blk_set hb1 1 v1, h.ge, by rw [List.length_append, List.length_singleton]; exact own_setCell h1 hne _, hne⟩, ?_, h2.setCell h.ge _, ?_⟩
  · exact (KeepBut.of_grown h3 g).set_ 1 v1
  · rcases h4 with h4 | ⟨b, h4, h5⟩
    · exact .inl h4
    · exact .inr ⟨b, h4, by omega⟩
theorem info2 : (Try.prog.info? 2).map (fun i => (i.zero, i.size, i.bytes)) = some (some (.int .i64 0), 1, 8) := by kernel_rfl

def shiftF (x by_ : Int) : Bool := decide (¬ (by_ > 4294967294 ∨ by_ < -4294967294) ∧ wrap64 (by_ + x) ≥ -2147483647 ∧ wrap64 (by_ + x) ≤ 2147483647)
def shiftM (x by_ : Int) (ms : List Int) : List Int := if shiftF x by_ = true then ms ++ [by_] else ms

set_option maxHeartbeats 2000000 in
theorem shift_ref (w0 w : World) (g : Nat) (f : Int) (v : Value) (ms : List Int) (n : Int) (h : RefW w0.heap.size w g f v ms) (hB : Below w0.heap.size w0 w) (hl : (ms.length + 1) * 8 ≤ 140737488355328) :
    Calls Try.prog 21 #[.pointer (some ⟨g, 0, none⟩), .int .i64 n] w fun e w' => e = .returned (.int .i64 (if shiftF (lsum f ms) n = true then 0 else 3)) ∧ RStep w0 w w' g f v (shiftM (lsum f ms) n ms) := by
  have HH := Aside0.mk h
  have HB := Aside0.mk hB
  have hwi := Aside0.mk (within_ref w0.heap.size w g f v ms n (-2147483647) h)
  by_cases c : shiftF (lsum f ms) n = true
  · have c' : decide (¬ (n > 4294967294 ∨ n < -4294967294) ∧ wrap64 (n + lsum f ms) ≥ -2147483647 ∧ wrap64 (n + lsum f ms) ≤ 2147483647) = true := c
    have k0 : w.cell? ⟨g, 0, none⟩ = some (.int .i64 f) := blk_cell h.blk 0
    have k1 : w.cell? ⟨g, 1, none⟩ = some v := blk_cell h.blk 1
    have z1 := blk_frozen h.blk 1
    have hs : w0.heap.size ≤ w.heap.size := hB.size
    have HL := Aside0.mk hl
    rw [show shiftM (lsum f ms) n ms = ms ++ [n] from if_pos c]
    rw [if_pos c]
    have HC := Aside0.mk c'
    clear h hB hl c c'
    go_enter Try.func21, Try.ntmps21
    go_wp2_with (first | (go_at_call 22; refine hwi.out.mono ?_; rintro e w' ⟨rfl, rfl⟩; rw [HC.out]) | (refine print_append_num (w0 := w0) w0.heap.size rfl _ _ 43 2 .i64 8 rfl Try.underlying43 info2 (by decide) v ms n rfl rfl (HH.out.row) HB.out hs HL.out ?_; intro v1 w1 q1 q2 q3 q4; obtain ⟨A1, C1, rfl⟩ := own_slice q1; rw [List.length_append, List.length_singleton] at q1 q4; have Q1 := Aside0.mk q1; have Q2 := Aside0.mk q2; have Q3 := Aside0.mk q3; have Q4 := Aside0.mk q4; have b1 := blk_grown HH.out.blk q3 HH.out.ne; have t0 := blk_cell b1 0; have t1 := blk_cell b1 1; have y1 := blk_frozen b1 1; clear q1 q2 q3 q4 b1))

    go_ret
    exact ⟨rfl, RStep.push HH.out Q1.out Q2.out Q3.out Q4.out⟩
  · have c' : decide (¬ (n > 4294967294 ∨ n < -4294967294) ∧ wrap64 (n + lsum f ms) ≥ -2147483647 ∧ wrap64 (n + lsum f ms) ≤ 2147483647) = false := by unfold shiftF at c; exact Bool.eq_false_iff.2 c
    rw [show shiftM (lsum f ms) n ms = ms from if_neg c]
    rw [if_neg c]
    have HC := Aside0.mk c'
    clear h hB hl c c'
    go_enter Try.func21, Try.ntmps21
    go_wp2_with (first | (go_at_call 22; refine hwi.out.mono ?_; rintro e w' ⟨rfl, rfl⟩; rw [HC.out]))
    go_ret
    exact ⟨rfl, RStep.same HH.out HB.out⟩

set_option maxHeartbeats 2000000 in
theorem give_ref (w0 w : World) (g : Nat) (f : Int) (v : Value) (ms : List Int) (n : Int) (h : RefW w0.heap.size w g f v ms) (hB : Below w0.heap.size w0 w) (hl : (ms.length + 1) * 8 ≤ 140737488355328) :
    Calls Try.prog 20 #[.pointer (some ⟨g, 0, none⟩), .int .i64 n] w fun e w' => e = .returned (.int .i64 (if n < 1 then 1 else if shiftF (lsum f ms) n = true then 0 else 3)) ∧ RStep w0 w w' g f v (if n < 1 then ms else shiftM (lsum f ms) n ms) := by
  have HH := Aside0.mk h
  have HB := Aside0.mk hB
  have hwi := Aside0.mk (within_ref w0.heap.size w g f v ms n (-2147483647) h)
  by_cases cn : n < 1
  · rw [if_pos cn, if_pos cn]
    have dn : decide (n < 1) = true := decide_eq_true cn
    clear h hB hl
    go_enter Try.func20, Try.ntmps20
    go_wp2
    go_ret
    exact ⟨rfl, RStep.same HH.out HB.out⟩
  have dn : decide (n < 1) = false := decide_eq_false cn
  rw [if_neg cn, if_neg cn]
  clear cn
  by_cases c : shiftF (lsum f ms) n = true
  · have c' : decide (¬ (n > 4294967294 ∨ n < -4294967294) ∧ wrap64 (n + lsum f ms) ≥ -2147483647 ∧ wrap64 (n + lsum f ms) ≤ 2147483647) = true := c
    have k0 : w.cell? ⟨g, 0, none⟩ = some (.int .i64 f) := blk_cell h.blk 0
    have k1 : w.cell? ⟨g, 1, none⟩ = some v := blk_cell h.blk 1
    have z1 := blk_frozen h.blk 1
    have hs : w0.heap.size ≤ w.heap.size := hB.size
    have HL := Aside0.mk hl
    rw [show shiftM (lsum f ms) n ms = ms ++ [n] from if_pos c]
    rw [if_pos c]
    have HC := Aside0.mk c'
    clear h hB hl c c'
    go_enter Try.func20, Try.ntmps20
    go_wp2_with (first | (go_at_call 22; refine hwi.out.mono ?_; rintro e w' ⟨rfl, rfl⟩; rw [HC.out]) | (refine print_append_num (w0 := w0) w0.heap.size rfl _ _ 43 2 .i64 8 rfl Try.underlying43 info2 (by decide) v ms n rfl rfl (HH.out.row) HB.out hs HL.out ?_; intro v1 w1 q1 q2 q3 q4; obtain ⟨A1, C1, rfl⟩ := own_slice q1; rw [List.length_append, List.length_singleton] at q1 q4; have Q1 := Aside0.mk q1; have Q2 := Aside0.mk q2; have Q3 := Aside0.mk q3; have Q4 := Aside0.mk q4; have b1 := blk_grown HH.out.blk q3 HH.out.ne; have t0 := blk_cell b1 0; have t1 := blk_cell b1 1; have y1 := blk_frozen b1 1; clear q1 q2 q3 q4 b1))
    go_ret
    exact ⟨rfl, RStep.push HH.out Q1.out Q2.out Q3.out Q4.out⟩
  · have c' : decide (¬ (n > 4294967294 ∨ n < -4294967294) ∧ wrap64 (n + lsum f ms) ≥ -2147483647 ∧ wrap64 (n + lsum f ms) ≤ 2147483647) = false := by unfold shiftF at c; exact Bool.eq_false_iff.2 c
    rw [show shiftM (lsum f ms) n ms = ms from if_neg c]
    rw [if_neg c]
    have HC := Aside0.mk c'
    clear h hB hl c c'
    go_enter Try.func20, Try.ntmps20
    go_wp2_with (first | (go_at_call 22; refine hwi.out.mono ?_; rintro e w' ⟨rfl, rfl⟩; rw [HC.out]))
    go_ret
    exact ⟨rfl, RStep.same HH.out HB.out⟩

def takeF (x n : Int) : Bool := if n ≤ 0 then decide (n = 0) else decide (¬ n > x)
def takeM (x n : Int) (ms : List Int) : List Int := if n ≤ 0 then ms else if n > x then ms else ms ++ [wrap64 (-n)]

set_option maxHeartbeats 2000000 in
theorem take_ref (w0 w : World) (g : Nat) (f : Int) (v : Value) (ms : List Int) (n : Int) (h : RefW w0.heap.size w g f v ms) (hB : Below w0.heap.size w0 w) (hl : (ms.length + 1) * 8 ≤ 140737488355328) :
    Calls Try.prog 19 #[.pointer (some ⟨g, 0, none⟩), .int .i64 n] w fun e w' => e = .returned (.bool (takeF (lsum f ms) n)) ∧ RStep w0 w w' g f v (takeM (lsum f ms) n ms) := by
  have HH := Aside0.mk h
  have HB := Aside0.mk hB
  have hwi := Aside0.mk (left_ref w0.heap.size w g f v ms h)
  obtain ⟨x, hx⟩ : ∃ x, lsum f ms = x := ⟨_, rfl⟩
  rw [hx]
  by_cases cn : n ≤ 0
  · rw [show takeF x n = decide (n = 0) from if_pos cn, show takeM x n ms = ms from if_pos cn]
    have dn : decide (n ≤ 0) = true := decide_eq_true cn
    clear h hB hl
    go_enter Try.func19, Try.ntmps19
    go_wp2
    go_ret
    exact ⟨rfl, RStep.same HH.out HB.out⟩
  have dn : decide (n ≤ 0) = false := decide_eq_false cn
  by_cases c : n > x
  · have dc : decide (x < n) = true := decide_eq_true c
    rw [show takeF x n = false by unfold takeF; rw [if_neg cn]; simpa using c, show takeM x n ms = ms by unfold takeM; rw [if_neg cn, if_pos c]]
    clear h hB hl
    clear cn c
    go_enter Try.func19, Try.ntmps19
    go_wp2_with (first | (go_at_call 13; refine hwi.out.mono ?_; rintro e w' ⟨rfl, rfl⟩; rw [hx]))
    go_ret
    exact ⟨rfl, RStep.same HH.out HB.out⟩
  · have dc : decide (x < n) = false := decide_eq_false c
    rw [show takeF x n = true by unfold takeF; rw [if_neg cn]; simpa using c, show takeM x n ms = ms ++ [wrap64 (-n)] by unfold takeM; rw [if_neg cn, if_neg c]]
    have k0 : w.cell? ⟨g, 0, none⟩ = some (.int .i64 f) := blk_cell h.blk 0
    have k1 : w.cell? ⟨g, 1, none⟩ = some v := blk_cell h.blk 1
    have z1 := blk_frozen h.blk 1
    have hs : w0.heap.size ≤ w.heap.size := hB.size
    have HL := Aside0.mk hl
    clear h hB hl c cn
    go_enter Try.func19, Try.ntmps19
    go_wp2_with (first | (go_at_call 13; refine hwi.out.mono ?_; rintro e w' ⟨rfl, rfl⟩; rw [hx]) | (refine print_append_num (w0 := w0) w0.heap.size rfl _ _ 43 2 .i64 8 rfl Try.underlying43 info2 (by decide) v ms (wrap64 (-n)) rfl rfl (HH.out.row) HB.out hs HL.out ?_; intro v1 w1 q1 q2 q3 q4; obtain ⟨A1, C1, rfl⟩ := own_slice q1; rw [List.length_append, List.length_singleton] at q1 q4; have Q1 := Aside0.mk q1; have Q2 := Aside0.mk q2; have Q3 := Aside0.mk q3; have Q4 := Aside0.mk q4; have b1 := blk_grown HH.out.blk q3 HH.out.ne; have t0 := blk_cell b1 0; have t1 := blk_cell b1 1; have y1 := blk_frozen b1 1; clear q1 q2 q3 q4 b1))
    go_ret
    exact ⟨rfl, RStep.push HH.out Q1.out Q2.out Q3.out Q4.out⟩

end Go.Proofs.Ytbngliommdmnkaa.MW
