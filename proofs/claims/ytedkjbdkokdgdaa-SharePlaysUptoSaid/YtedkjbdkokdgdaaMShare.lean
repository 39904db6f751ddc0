/- The program's share: New, Put, Drop, Waits, Next. What it holds is a function of the streams' numbers; the texts fit. -/
import Derived.Test.YtedkjbdkokdgdaaMMap
import Derived.RegionTactic
import Derived.Deep.QuietTactic
import Derived.BigQuiet
namespace Go.Proofs.Ytedkjbdkokdgdaa.Sh
open Go Go.RowKit Go.Proofs.YtedkjbdkokdgdaaW.PrintWords Go.Proofs.YtedkjbdkokdgdaaW.PrintLast Go.Proofs.YtedkjbdkokdgdaaW.PrintMore
set_option linter.unusedSimpArgs false
set_option linter.unusedVariables false
set_option maxHeartbeats 4000000
set_option maxRecDepth 100000
/-- A share lies at block p, its map at block mb. -/
structure ShAt (w : World) (p mb n : Nat) (m : Int → Qu) : Prop where
  blk : w.heap[p]? = some (.cells #[.map (some mb)] 60 (0, 0))
  mq : MQ w mb n m
section
variable {w w' : World} {p mb n : Nat} {m : Int → Qu}
theorem ShAt.ne (h : ShAt w p mb n m) : p ≠ mb := by
  rintro rfl
  obtain ⟨D, ⟨es, clock, hb, _⟩, _⟩ := h.mq.own
  rw [h.blk] at hb
  cases hb
theorem ShAt.low (h : ShAt w p mb n m) (hb : Below w.heap.size w w') : ShAt w' p mb n m := ⟨blk_below h.blk hb, h.mq.low hb⟩
theorem ShAt.put {n' : Nat} {m' : Int → Qu} (h : ShAt w p mb n m) (hg : w.grownBy w' (some mb)) (hq : MQ w' mb n' m') : ShAt w' p mb n' m' := ⟨blk_grown h.blk hg (fun e => h.ne (Option.some.inj e)), hq⟩
theorem ShAt.other {b : Nat} (h : ShAt w p mb n m) (hg : w.grownBy w' (some b)) (h1 : b ≠ p) (h2 : b ≠ mb) : ShAt w' p mb n m := ⟨blk_grown h.blk hg (fun e => h1 (Option.some.inj e).symm), h.mq.kept hg (fun e => h2 (Option.some.inj e).symm)⟩
end
theorem grown_then {w w1 w2 : World} {b : Nat} (h : Below w.heap.size w w1) (k : w1.grownBy w2 (some b)) : w.grownBy w2 (some b) :=
  ⟨k.os.trans h.os, k.tape.trans h.tape, k.output.trans h.output, Nat.le_trans h.size k.size, fun i hi hn => (k.block i (Nat.lt_of_lt_of_le hi h.size) hn).trans (h.block i hi)⟩
theorem grown_low {w w1 : World} {b : Nat} (h : Below w.heap.size w w1) : w.grownBy w1 (some b) := grown_then h ⟨rfl, rfl, rfl, Nat.le_refl _, fun _ _ _ => rfl⟩
/-- A fresh map or share is above B. -/
theorem grown_below {B b : Nat} {w0 w w1 : World} (h : Below B w0 w) (hg : w.grownBy w1 (some b)) (hb : B ≤ b) (hB : B ≤ w.heap.size) : Below B w0 w1 :=
  ⟨hg.os.trans h.os, hg.tape.trans h.tape, hg.output.trans h.output, Nat.le_trans h.size hg.size, fun k hk => (hg.block k (by omega) (by intro e; have := Option.some.inj e; omega)).trans (h.block k hk)⟩
theorem new_calls (w : World) : Calls Try.prog 12 #[] w fun e w' => ∃ p mb, e = .returned (.pointer (some ⟨p, 0, none⟩)) ∧ ShAt w' p mb 0 (fun _ => Qu.zero) ∧ w.heap.size ≤ p ∧ w.heap.size ≤ mb ∧ Below w.heap.size w w' := by
  have HB := Aside0.mk (Below.refl w.heap.size w)
  have hmm := @run_makeMap Try.prog
  go_enter Try.func12, Try.ntmps12
  go_wp2_with fail
  go_ret
  have e : (w.alloc (.map #[] 0)).heap.size = w.heap.size + 1 := World.size_alloc _ _
  refine ⟨w.heap.size + 1, w.heap.size, rfl, ⟨by rw [← e]; exact blk_new _ _, (MQ.made w).low (below_alloc (Below.refl _ _) _)⟩, by omega, by omega, below_alloc (below_alloc HB.out _) _⟩
theorem waits_calls (p mb n : Nat) (m : Int → Qu) (id : Int) (w : World) (h : ShAt w p mb n m) (hid : W64 id) : Calls Try.prog 19 #[.pointer (some ⟨p, 0, none⟩), .int .i64 id] w fun e w' => e = .returned (.tuple #[.int .i64 ((m id).t.size : Int), .bool (m id).e]) ∧ Below w.heap.size w w' := by
  have HB := Aside0.mk (Below.refl w.heap.size w)
  have z0 := blk_cell h.blk 0
  have zl := h.mq.look hid
  obtain ⟨q, hq⟩ : ∃ q, m id = q := ⟨_, rfl⟩
  rw [hq] at zl ⊢
  clear hq h
  go_enter Try.func19, Try.ntmps19
  go_upto_region 2 with fail
  go_quiet (fail)
  go_wp2_with fail
  go_ret2
  exact ⟨rfl, pw_below_drewN (below_alloc HB.out _) nq⟩
theorem drop_calls (p mb n : Nat) (m : Int → Qu) (id : Int) (x : Bool) (w : World) (h : ShAt w p mb n m) (hid : W64 id) (hx : (!(m id).t.toList.isEmpty || (m id).e) = x) : Calls Try.prog 21 #[.pointer (some ⟨p, 0, none⟩), .int .i64 id] w fun e w' => e = .returned (.bool x) ∧ ShAt w' p mb n (updM m id Qu.zero) ∧ w.grownBy w' (some mb) := by
  have H := Aside0.mk h
  have HID := Aside0.mk hid
  have HB := Aside0.mk (Below.refl w.heap.size w)
  have HX := Aside0.mk hx
  have z0 := blk_cell h.blk 0
  have zl := h.mq.look hid
  obtain ⟨q, hq⟩ : ∃ q, m id = q := ⟨_, rfl⟩
  rw [hq] at zl HX
  clear hq h hid hx
  go_enter Try.func21, Try.ntmps21
  go_upto_region 2 with fail
  obtain ⟨W, hW⟩ : ∃ W, w.alloc (.cells #[.string q.t, .bool q.o, .bool q.e] 65) = W := ⟨_, rfl⟩
  obtain ⟨g, hg⟩ : ∃ g, w.heap.size = g := ⟨_, rfl⟩
  have X : Aside0 (W.heap[g]? = some (.cells #[.string q.t, .bool q.o, .bool q.e] 65 (0, 0))) := ⟨by rw [← hW, ← hg]; exact blk_new _ _⟩
  have L : Aside0 (Below w.heap.size w W) := ⟨by rw [← hW]; exact below_alloc HB.out _⟩
  have HG : Aside0 (mb < w.heap.size ∧ w.heap.size = g) := ⟨H.out.mq.lt, hg⟩
  rw [hW, hg]
  clear hW hg z0 zl
  have H1 := Aside0.mk (H.out.low L.out)
  have z0 := blk_cell H1.out.blk 0
  obtain ⟨W2, hrun, hm, hgr⟩ := H1.out.mq.drop HID.out 0
  have H2 := Aside0.mk (H1.out.put hgr hm)
  have X2 := Aside0.mk (blk_grown X.out hgr (by intro e; have := Option.some.inj e; have := HG.out; omega))
  have G2 := Aside0.mk (grown_then L.out hgr)
  clear hm hgr
  go_upto_region 3 with fail
  clear hrun z0
  have x0 := blk_cell X2.out 0
  have x2 := blk_cell X2.out 2
  obtain ⟨y, hy⟩ : ∃ y, q.t.toList.isEmpty = y := ⟨_, rfl⟩
  rw [hy] at HX
  cases y
  · go_wp2_with fail
    go_ret
    refine ⟨?_, H2.out, G2.out⟩
    rw [← HX.out]
    rfl
  · go_wp2_with fail
    go_ret
    refine ⟨?_, H2.out, G2.out⟩
    rw [← HX.out]
    rfl
/-- What Put does: its number, and what waits behind it. -/
def putF (m : Int → Qu) (id : Int) (t : ByteArray) (e : Bool) : Int × (Int → Qu) := if id < 1 ∨ 2147483647 < id then (1, m) else if (m id).o = true then (8, m) else (0, updM m id ⟨(m id).t ++ t, e, e⟩)
theorem put_calls (p mb n : Nat) (m : Int → Qu) (id : Int) (t : ByteArray) (e : Bool) (w : World) (h : ShAt w p mb n m) (hn : n < maxLen) (hs : (m id).t.size + t.size ≤ 9223372036854775807) : Calls Try.prog 15 #[.pointer (some ⟨p, 0, none⟩), .int .i64 id, .string t, .bool e] w fun e' w' => e' = .returned (.int .i64 (putF m id t e).1) ∧ ShAt w' p mb (n + 1) (putF m id t e).2 ∧ w.grownBy w' (some mb) := by
  have H := Aside0.mk h
  have HB := Aside0.mk (Below.refl w.heap.size w)
  have HN := Aside0.mk hn
  obtain ⟨F, hF⟩ : ∃ F, putF m id t e = F := ⟨_, rfl⟩
  rw [hF]
  have HF := Aside0.mk hF
  unfold putF at HF
  clear hF
  by_cases h1 : id < 1
  · have d1 : decide (id < 1) = true := decide_eq_true h1
    rw [if_pos (Or.inl h1)] at HF
    obtain rfl := HF.out
    clear h1 h hn hs HF
    go_enter Try.func15, Try.ntmps15
    go_wp2_with fail
    go_ret
    exact ⟨rfl, ⟨H.out.blk, H.out.mq.mono (Nat.le_succ _)⟩, grown_low HB.out⟩
  · have d1 : decide (id < 1) = false := decide_eq_false h1
    by_cases h2 : 2147483647 < id
    · have d2 : decide (2147483647 < id) = true := decide_eq_true h2
      rw [if_pos (Or.inr h2)] at HF
      obtain rfl := HF.out
      clear h1 h2 h hn hs HF
      go_enter Try.func15, Try.ntmps15
      go_wp2_with fail
      go_ret
      exact ⟨rfl, ⟨H.out.blk, H.out.mq.mono (Nat.le_succ _)⟩, grown_low HB.out⟩
    · have d2 : decide (2147483647 < id) = false := decide_eq_false h2
      rw [if_neg (by omega)] at HF
      have HID : Aside0 (1 ≤ id ∧ id ≤ 2147483647) := ⟨by omega⟩
      have z0 := blk_cell h.blk 0
      have zl := h.mq.look (id := id) ⟨by omega, by omega⟩
      obtain ⟨q, hq⟩ : ∃ q, m id = q := ⟨_, rfl⟩
      have hs2 : (q.t.size : Int) + (t.size : Int) ≤ 9223372036854775807 := by rw [← hq]; omega
      have hs3 : ¬ 9223372036854775807 < q.t.size + t.size := by rw [← hq]; omega
      rw [hq] at zl HF
      clear h1 h2 hq h hn hs
      go_enter Try.func15, Try.ntmps15
      go_upto_region 4 with fail
      obtain ⟨W, hW⟩ : ∃ W, w.alloc (.cells #[.string q.t, .bool q.o, .bool q.e] 65) = W := ⟨_, rfl⟩
      obtain ⟨g, hg⟩ : ∃ g, w.heap.size = g := ⟨_, rfl⟩
      have X : Aside0 (W.heap[g]? = some (.cells #[.string q.t, .bool q.o, .bool q.e] 65 (0, 0))) := ⟨by rw [← hW, ← hg]; exact blk_new _ _⟩
      have L : Aside0 (Below w.heap.size w W) := ⟨by rw [← hW]; exact below_alloc HB.out _⟩
      rw [hW, hg]
      clear hW hg z0 zl
      have H1 := Aside0.mk (H.out.low L.out)
      have z1 := blk_cell X.out 1
      obtain ⟨qo, hqo⟩ : ∃ y, q.o = y := ⟨_, rfl⟩
      rw [hqo] at z1
      have HQO := Aside0.mk hqo
      clear hqo
      cases qo
      · rw [if_neg (by rw [HQO.out]; decide)] at HF
        obtain rfl := HF.out
        clear HF
        go_upto_region 6 with fail
        clear z1
        refine start_ (n := 13) (S := fun w' => w'.cell? ⟨p, 0, none⟩ = some (.map (some mb)) ∧ w'.cell? ⟨g, 0, none⟩ = some (.string q.t) ∧ ShAt w' p mb n m ∧ Below w.heap.size w w') (ds := [12]) #[false, false, false, false, false, false, false, false, false, false, false, false, false] (by kernel_rfl) rfl rfl ⟨blk_cell (H1.out.low (below_drew (Below.refl _ _))).blk 0, blk_cell (blk_below X.out (below_drew (Below.refl _ _))) 0, H1.out.low (below_drew (Below.refl _ _)), below_drew L.out⟩ (fun hHeld => ?_)
        refine pure_ (i := 0) (N := some 24) (v := ?_) (a' := ?_) #[true, false, false, false, false, false, false, false, false, false, false, false, false] rfl rfl (by kernel_rfl) (fun _ _ _ h => h) (Or.inl ⟨by rfl, ?_⟩) ?_ ?_
        rotate_left
        · intro w'
          go_simp
          with_reducible rfl
        rotate_left
        · simp only [Act.put, List.setIfInBounds_toArray, List.set_cons_zero, List.set_cons_succ, i64_w, i32_w]
          rfl
        refine pure_ (i := 1) (N := some 25) (v := ?_) (a' := ?_) #[true, true, false, false, false, false, false, false, false, false, false, false, false] rfl rfl (by kernel_rfl) (fun _ _ _ h => h) (Or.inl ⟨by rfl, ?_⟩) ?_ ?_
        rotate_left
        · intro w'
          go_simp
          with_reducible rfl
        rotate_left
        · simp only [Act.put, List.setIfInBounds_toArray, List.set_cons_zero, List.set_cons_succ, i64_w, i32_w]
          rfl
        refine pure_ (i := 2) (N := some 26) (v := ?_) (a' := ?_) #[true, true, true, false, false, false, false, false, false, false, false, false, false] rfl rfl (by kernel_rfl) (fun _ _ _ h => h) (Or.inl ⟨by rfl, ?_⟩) ?_ ?_
        rotate_left
        · intro w'
          go_simp
          with_reducible rfl
        rotate_left
        · simp only [Act.put, List.setIfInBounds_toArray, List.set_cons_zero, List.set_cons_succ, i64_w, i32_w]
          rfl
        refine pure_ (i := 4) (N := some 28) (v := ?_) (a' := ?_) #[true, true, true, false, true, false, false, false, false, false, false, false, false] rfl rfl (by kernel_rfl) (fun _ _ _ h => h) (Or.inl ⟨by rfl, ?_⟩) ?_ ?_
        rotate_left
        · intro w'
          go_simp
          with_reducible rfl
        rotate_left
        · simp only [Act.put, List.setIfInBounds_toArray, List.set_cons_zero, List.set_cons_succ, i64_w, i32_w]
          rfl
        refine pure_ (i := 5) (N := some 29) (v := ?_) (a' := ?_) #[true, true, true, false, true, true, false, false, false, false, false, false, false] rfl rfl (by kernel_rfl) (fun _ _ _ h => h) (Or.inl ⟨by rfl, ?_⟩) ?_ ?_
        rotate_left
        · intro w'
          go_simp
          with_reducible rfl
        rotate_left
        · simp only [Act.put, List.setIfInBounds_toArray, List.set_cons_zero, List.set_cons_succ, i64_w, i32_w]
          rfl
        refine pure_ (i := 7) (N := some 31) (v := ?_) (a' := ?_) #[true, true, true, false, true, true, false, true, false, false, false, false, false] rfl rfl (by kernel_rfl) (fun _ _ _ h => h) (Or.inl ⟨by rfl, ?_⟩) ?_ ?_
        rotate_left
        · intro w'
          go_simp
          with_reducible rfl
        rotate_left
        · simp only [Act.put, List.setIfInBounds_toArray, List.set_cons_zero, List.set_cons_succ, i64_w, i32_w]
          rfl
        refine pure_ (i := 9) (N := some 33) (v := ?_) (a' := ?_) #[true, true, true, false, true, true, false, true, false, true, false, false, false] rfl rfl (by kernel_rfl) (fun _ _ _ h => h) (Or.inl ⟨by rfl, ?_⟩) ?_ ?_
        rotate_left
        · intro w'
          go_simp
          with_reducible rfl
        rotate_left
        · simp only [Act.put, List.setIfInBounds_toArray, List.set_cons_zero, List.set_cons_succ, i64_w, i32_w]
          rfl
        refine pure_ (i := 10) (N := some 34) (v := ?_) (a' := ?_) #[true, true, true, false, true, true, false, true, false, true, true, false, false] rfl rfl (by kernel_rfl) (fun _ _ _ h => h) (Or.inl ⟨by rfl, ?_⟩) ?_ ?_
        rotate_left
        · intro w'
          go_simp
          with_reducible rfl
        rotate_left
        · simp only [Act.put, List.setIfInBounds_toArray, List.set_cons_zero, List.set_cons_succ, i64_w, i32_w]
          rfl
        refine take_ (i := 3) (N := some 27) (v := ?_) (a' := ?_) #[true, true, true, true, true, true, false, true, false, true, true, false, false] rfl rfl (by kernel_rfl) (fun _ _ _ h => h) (Or.inl ⟨by rfl, ?_⟩) hHeld ?_ ?_
        rotate_left
        · rintro w' ⟨s0, s1, s2, s3⟩
          go_simp
          with_reducible rfl
        rotate_left
        · simp only [Act.put, List.setIfInBounds_toArray, List.set_cons_zero, List.set_cons_succ, i64_w, i32_w]
          rfl
        refine take_ (i := 6) (N := some 30) (v := ?_) (a' := ?_) #[true, true, true, true, true, true, true, true, false, true, true, false, false] rfl rfl (by kernel_rfl) (fun _ _ _ h => h) (Or.inl ⟨by rfl, ?_⟩) hHeld ?_ ?_
        rotate_left
        · rintro w' ⟨s0, s1, s2, s3⟩
          go_simp
          with_reducible rfl
        rotate_left
        · simp only [Act.put, List.setIfInBounds_toArray, List.set_cons_zero, List.set_cons_succ, i64_w, i32_w]
          rfl
        refine pure_ (i := 8) (N := some 32) (v := ?_) (a' := ?_) #[true, true, true, true, true, true, true, true, true, true, true, false, false] rfl rfl (by kernel_rfl) (fun _ _ _ h => h) (Or.inl ⟨by rfl, ?_⟩) ?_ ?_
        rotate_left
        · intro w'
          go_simp
          with_reducible rfl
        rotate_left
        · simp only [Act.put, List.setIfInBounds_toArray, List.set_cons_zero, List.set_cons_succ, i64_w, i32_w]
          rfl
        refine pure_ (i := 11) (N := some 35) (v := ?_) (a' := ?_) #[true, true, true, true, true, true, true, true, true, true, true, true, false] rfl rfl (by kernel_rfl) (fun _ _ _ h => h) (Or.inl ⟨by rfl, ?_⟩) ?_ ?_
        rotate_left
        · intro w'
          go_simp
          with_reducible rfl
        rotate_left
        · simp only [Act.put, List.setIfInBounds_toArray, List.set_cons_zero, List.set_cons_succ, i64_w, i32_w]
          rfl
        refine last_ (i := 12) (N := none) #[true, true, true, true, true, true, true, true, true, true, true, true, true] rfl rfl (by kernel_rfl) (by decide) (fun K hK => ?_)
        obtain ⟨w9, hrun, hm9, hg9⟩ := hHeld.2.2.1.mq.put HN.out HID.out.1 HID.out.2 ⟨q.t ++ t, e, e⟩
        refine skip_ (w1 := ?_) (by rfl) rfl ?_ ?_
        rotate_left
        · go_simp
          rfl
        have H9 := Aside0.mk (hHeld.2.2.1.put hg9 hm9)
        have G9 := Aside0.mk (grown_then hHeld.2.2.2 hg9)
        clear hrun hm9
        refine hK.out _ _ ?_
        clear hK K
        refine done_ (by kernel_rfl) ?_
        go_wp2_with fail
        go_ret
        exact ⟨rfl, H9.out, G9.out⟩
      · rw [if_pos HQO.out] at HF
        obtain rfl := HF.out
        clear HF
        go_wp2_with fail
        go_ret
        exact ⟨rfl, ⟨H1.out.blk, H1.out.mq.mono (Nat.le_succ _)⟩, grown_low L.out⟩
end Go.Proofs.Ytedkjbdkokdgdaa.Sh
