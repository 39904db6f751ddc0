/- The program's share: Next; Pick. What it holds is a function of the streams' numbers; the texts fit. -/
import Derived.Test.YtedkjbdkokdgdaaMShare
import Derived.RegionTactic
import Derived.Deep.QuietTactic
import Derived.BigQuiet
namespace Go.Proofs.Ytedkjbdkokdgdaa.Sh
open Go Go.RowKit Go.Proofs.YtedkjbdkokdgdaaW.PrintWords Go.Proofs.YtedkjbdkokdgdaaW.PrintLast Go.Proofs.YtedkjbdkokdgdaaW.PrintMore
set_option linter.unusedSimpArgs false
set_option linter.unusedVariables false
set_option maxHeartbeats 4000000
set_option maxRecDepth 100000
attribute [local go_sem] max2_int min2_int max_two min_two max_three min_three max_four min_four   -- for this text's walks alone
/-- How much may go. -/
def roomF (conn stream want frame : Int) : Int := max 0 (min (min (min conn stream) want) frame)
theorem room_calls (conn stream want frame : Int) (w : World) : Calls Try.prog 27 #[.int .i64 conn, .int .i64 stream, .int .i64 want, .int .i64 frame] w fun e w' => e = .returned (.int .i64 (roomF conn stream want frame)) ∧ w = w' := by
  go_enter Try.func27, Try.ntmps27
  go_wp2_with fail
  all_goals
    go_ret
    refine ⟨?_, rfl⟩
    simp [roomF]
    try omega
/-- An answer of Next. -/
structure Pc where
  p : ByteArray
  l : Bool
  e : Int
def bare (s : ByteArray) : Bool := s.toList.isEmpty
theorem bare_empty : bare ByteArray.empty = true := by unfold bare; rw [ByteArray.toList_eq]; rfl
/-- What Next does. -/
def nextF (m : Int → Qu) (id conn stream frame : Int) : Pc × (Int → Qu) :=
  if frame < 1 then (⟨ByteArray.empty, false, 1⟩, m)
  else if bare (m id).t = true ∧ (m id).e = false then (⟨ByteArray.empty, false, 5⟩, m)
  else if bare (m id).t = false ∧ (conn ≤ 0 ∨ stream ≤ 0) then (⟨ByteArray.empty, false, 6⟩, m)
  else
    (⟨(m id).t.extract 0 (roomF conn stream (m id).t.size frame).toNat, bare ((m id).t.extract (roomF conn stream (m id).t.size frame).toNat (m id).t.size) && (m id).e, 0⟩,
      updM m id ⟨(m id).t.extract (roomF conn stream (m id).t.size frame).toNat (m id).t.size, (m id).o, (m id).e && !(bare ((m id).t.extract (roomF conn stream (m id).t.size frame).toNat (m id).t.size))⟩)
theorem roomF_le (conn stream want frame : Int) (h : 0 ≤ want) : 0 ≤ roomF conn stream want frame ∧ roomF conn stream want frame ≤ want := by
  unfold roomF
  omega
theorem next_calls (p mb n : Nat) (m : Int → Qu) (id conn stream frame : Int) (w : World) (h : ShAt w p mb n m) (hid : W64 id) (hn : n < maxLen) (hs : (m id).t.size ≤ 9223372036854775807) :
    Calls Try.prog 16 #[.pointer (some ⟨p, 0, none⟩), .int .i64 id, .int .i64 conn, .int .i64 stream, .int .i64 frame] w fun e' w' => e' = .returned (.tuple #[.string (nextF m id conn stream frame).1.p, .bool (nextF m id conn stream frame).1.l, .int .i64 (nextF m id conn stream frame).1.e]) ∧ ShAt w' p mb (n + 1) (nextF m id conn stream frame).2 ∧ w.grownBy w' (some mb) := by
  have H := Aside0.mk h
  have HB := Aside0.mk (Below.refl w.heap.size w)
  have HN := Aside0.mk hn
  have HS := Aside0.mk hs
  have HMM : Aside0 (∀ (w' : World), Below w.heap.size w w' → ShAt w' p mb (n + 1) m ∧ w.grownBy w' (some mb)) := ⟨fun w' hb => ⟨⟨blk_below h.blk hb, (h.mq.low hb).mono (Nat.le_succ _)⟩, grown_low hb⟩⟩
  obtain ⟨F, hF⟩ : ∃ F, nextF m id conn stream frame = F := ⟨_, rfl⟩
  rw [hF]
  have HF := Aside0.mk hF
  unfold nextF at HF
  clear hF
  have z0 := blk_cell h.blk 0
  have zl := h.mq.look hid
  have HSUP := Aside0.mk (h.mq.sup id)
  obtain ⟨q, hq⟩ : ∃ q, m id = q := ⟨_, rfl⟩
  rw [hq] at zl HF HSUP HS
  clear hq h hn hs hid
  obtain ⟨b, hb⟩ : ∃ b, q.t.toList.isEmpty = b := ⟨_, rfl⟩
  have HBE : Aside0 (bare q.t = b) := ⟨hb⟩
  by_cases h1 : frame < 1
  · have d1 : decide (frame < 1) = true := decide_eq_true h1
    rw [if_pos h1] at HF
    obtain rfl := HF.out
    clear h1 HF
    go_enter Try.func16, Try.ntmps16
    go_wp2_with fail
    go_ret3
    exact ⟨rfl, HMM.out _ (below_alloc HB.out _)⟩
  · have d1 : decide (frame < 1) = false := decide_eq_false h1
    rw [if_neg h1] at HF
    have HFR : Aside0 (1 ≤ frame) := ⟨by omega⟩
    clear h1
    obtain ⟨qe, hqe⟩ : ∃ y, q.e = y := ⟨_, rfl⟩
    have HQE := Aside0.mk hqe
    rw [hqe] at zl
    clear hqe
    by_cases h2 : b = true ∧ qe = false
    · obtain ⟨rfl, rfl⟩ := h2
      rw [if_pos ⟨HBE.out, HQE.out⟩] at HF
      obtain rfl := HF.out
      clear HF
      go_enter Try.func16, Try.ntmps16
      go_wp2_with fail
      go_ret3
      exact ⟨rfl, HMM.out _ (below_alloc HB.out _)⟩
    · rw [if_neg (by rw [HBE.out, HQE.out]; exact h2)] at HF
      have HNZ : Aside0 (q ≠ Qu.zero) := ⟨by
        rintro rfl
        apply h2
        exact ⟨HBE.out.symm.trans bare_empty, HQE.out.symm.trans rfl⟩⟩
      have HID := Aside0.mk (HSUP.out HNZ.out)
      have d5 : (b && !qe) = false := by cases b <;> cases qe <;> simp at h2 ⊢
      by_cases h3 : b = false ∧ (conn ≤ 0 ∨ stream ≤ 0)
      · obtain ⟨rfl, h3⟩ := h3
        rw [if_pos ⟨HBE.out, h3⟩] at HF
        obtain rfl := HF.out
        clear HF h2 d5
        by_cases h4 : conn ≤ 0
        · have d4 : decide (conn ≤ 0) = true := decide_eq_true h4
          clear h3 h4
          go_enter Try.func16, Try.ntmps16
          go_wp2_with fail
          go_ret3
          exact ⟨rfl, HMM.out _ (below_alloc HB.out _)⟩
        · have d4 : decide (conn ≤ 0) = false := decide_eq_false h4
          have d6 : decide (stream ≤ 0) = true := decide_eq_true (by omega)
          clear h3 h4
          go_enter Try.func16, Try.ntmps16
          go_wp2_with fail
          go_ret3
          exact ⟨rfl, HMM.out _ (below_alloc HB.out _)⟩
      · rw [if_neg (by rw [HBE.out]; exact h3)] at HF
        obtain ⟨k, hk⟩ : ∃ k : Nat, roomF conn stream q.t.size frame = k := ⟨(roomF conn stream q.t.size frame).toNat, by have := roomF_le conn stream q.t.size frame (by omega); omega⟩
        have HK := Aside0.mk hk
        have k1 : (k : Int) ≤ (q.t.size : Int) := by have := roomF_le conn stream q.t.size frame (by omega); omega
        have k0 : (0 : Int) ≤ (k : Int) := by omega
        rw [hk] at HF
        rw [Int.toNat_natCast] at HF
        obtain ⟨y, hy⟩ : ∃ y, (q.t.extract k q.t.size).toList.isEmpty = y := ⟨_, rfl⟩
        have HY : Aside0 (bare (q.t.extract k q.t.size) = y) := ⟨hy⟩
        rw [HY.out, HQE.out] at HF
        obtain rfl := HF.out
        clear HF hk
        cases b
        · have d4 : decide (conn ≤ 0) = false := decide_eq_false (by simp at h3; omega)
          have d6 : decide (stream ≤ 0) = false := decide_eq_false (by simp at h3; omega)
          clear h2 h3 d5
          cases qe
          · cases y
            · go_enter Try.func16, Try.ntmps16
              go_upto_region 2 with fail
              obtain ⟨W, hW⟩ : ∃ W, w.alloc (.cells #[.string q.t, .bool q.o, .bool false] 65) = W := ⟨_, rfl⟩
              obtain ⟨g, hg⟩ : ∃ g, w.heap.size = g := ⟨_, rfl⟩
              have X : Aside0 (W.heap[g]? = some (.cells #[.string q.t, .bool q.o, .bool false] 65 (0, 0))) := ⟨by rw [← hW, ← hg]; exact blk_new _ _⟩
              have L : Aside0 (Below w.heap.size w W) := ⟨by rw [← hW]; exact below_alloc HB.out _⟩
              have HG : Aside0 (w.heap.size ≤ g) := ⟨by omega⟩
              rw [hW, hg]
              clear hW hg z0 zl
              have x0 := blk_cell X.out 0
              have x2 := blk_cell X.out 2
              have y0 := blk_frozen X.out 0
              have y2 := blk_frozen X.out 2
              go_upto_region 14 with (go_at_call 27; refine (room_calls _ _ _ _ _).mono ?_; rintro e w' ⟨rfl, rfl⟩; rw [HK.out])
              clear x0 x2 y0 y2 hy
              obtain ⟨rs, hrs⟩ : ∃ s, q.t.extract k q.t.size = s := ⟨_, rfl⟩
              rw [hrs]
              have HRS := Aside0.mk hrs
              obtain ⟨W3, hW⟩ : ∃ W', (W.setCell ⟨g, 0, none⟩ (.string rs)) = W' := ⟨_, rfl⟩
              have X3 : Aside0 (W3.heap[g]? = some (.cells #[.string rs, .bool q.o, .bool false] 65 (0, 0))) := ⟨by rw [← hW]; exact blk_put X.out 0 (.string rs) rfl⟩
              have L3 : Aside0 (Below w.heap.size w W3) := ⟨by rw [← hW]; exact L.out.setCell (p := ⟨g, 0, none⟩) HG.out _⟩
              rw [hW]
              clear hW hrs X L
              have H3 := Aside0.mk (H.out.low L3.out)
              refine start_ (n := 7) (S := fun w' => w'.cell? ⟨p, 0, none⟩ = some (.map (some mb)) ∧ w'.cell? ⟨g, 0, none⟩ = some (.string rs) ∧ w'.cell? ⟨g, 1, none⟩ = some (.bool q.o) ∧ w'.cell? ⟨g, 2, none⟩ = some (.bool false) ∧ ShAt w' p mb n m ∧ Below w.heap.size w w') (ds := [6]) #[false, false, false, false, false, false, false] (by kernel_rfl) rfl rfl ⟨blk_cell (H3.out.low (below_drew (Below.refl _ _))).blk 0, blk_cell (blk_below X3.out (below_drew (Below.refl _ _))) 0, blk_cell (blk_below X3.out (below_drew (Below.refl _ _))) 1, blk_cell (blk_below X3.out (below_drew (Below.refl _ _))) 2, H3.out.low (below_drew (Below.refl _ _)), below_drew L3.out⟩ (fun hHeld => ?_)
              refine pure_ (i := 0) (N := some 72) (v := ?_) (a' := ?_) #[true, false, false, false, false, false, false] rfl rfl (by kernel_rfl) (fun _ _ _ h => h) (Or.inl ⟨by rfl, ?_⟩) ?_ ?_
              rotate_left
              · intro w'
                go_simp
                with_reducible rfl
              rotate_left
              · simp only [Act.put, List.setIfInBounds_toArray, List.set_cons_zero, List.set_cons_succ, i64_w, i32_w]
                rfl
              refine pure_ (i := 1) (N := some 73) (v := ?_) (a' := ?_) #[true, true, false, false, false, false, false] rfl rfl (by kernel_rfl) (fun _ _ _ h => h) (Or.inl ⟨by rfl, ?_⟩) ?_ ?_
              rotate_left
              · intro w'
                go_simp
                with_reducible rfl
              rotate_left
              · simp only [Act.put, List.setIfInBounds_toArray, List.set_cons_zero, List.set_cons_succ, i64_w, i32_w]
                rfl
              refine pure_ (i := 2) (N := some 74) (v := ?_) (a' := ?_) #[true, true, true, false, false, false, false] rfl rfl (by kernel_rfl) (fun _ _ _ h => h) (Or.inl ⟨by rfl, ?_⟩) ?_ ?_
              rotate_left
              · intro w'
                go_simp
                with_reducible rfl
              rotate_left
              · simp only [Act.put, List.setIfInBounds_toArray, List.set_cons_zero, List.set_cons_succ, i64_w, i32_w]
                rfl
              refine pure_ (i := 4) (N := some 76) (v := ?_) (a' := ?_) #[true, true, true, false, true, false, false] rfl rfl (by kernel_rfl) (fun _ _ _ h => h) (Or.inl ⟨by rfl, ?_⟩) ?_ ?_
              rotate_left
              · intro w'
                go_simp
                with_reducible rfl
              rotate_left
              · simp only [Act.put, List.setIfInBounds_toArray, List.set_cons_zero, List.set_cons_succ, i64_w, i32_w]
                rfl
              refine take_ (i := 3) (N := some 75) (v := ?_) (a' := ?_) #[true, true, true, true, true, false, false] rfl rfl (by kernel_rfl) (fun _ _ _ h => h) (Or.inl ⟨by rfl, ?_⟩) hHeld ?_ ?_
              rotate_left
              · rintro w' ⟨s0, s1, s2, s3, s4, s5⟩
                go_simp
                with_reducible rfl
              rotate_left
              · simp only [Act.put, List.setIfInBounds_toArray, List.set_cons_zero, List.set_cons_succ, i64_w, i32_w]
                rfl
              refine take_ (i := 5) (N := some 77) (v := ?_) (a' := ?_) #[true, true, true, true, true, true, false] rfl rfl (by kernel_rfl) (fun _ _ _ h => h) (Or.inl ⟨by rfl, ?_⟩) hHeld ?_ ?_
              rotate_left
              · rintro w' ⟨s0, s1, s2, s3, s4, s5⟩
                go_simp
                with_reducible rfl
              rotate_left
              · simp only [Act.put, List.setIfInBounds_toArray, List.set_cons_zero, List.set_cons_succ, i64_w, i32_w]
                rfl
              refine last_ (i := 6) (N := none) #[true, true, true, true, true, true, true] rfl rfl (by kernel_rfl) (by decide) (fun K hK => ?_)
              obtain ⟨w9, hrun, hm9, hg9⟩ := hHeld.2.2.2.2.1.mq.put HN.out HID.out.1 HID.out.2 ⟨rs, q.o, false⟩
              refine skip_ (w1 := ?_) (by rfl) rfl ?_ ?_
              rotate_left
              · go_simp
                rfl
              have H9 := Aside0.mk (hHeld.2.2.2.2.1.put hg9 hm9)
              have G9 := Aside0.mk (grown_then hHeld.2.2.2.2.2 hg9)
              clear hrun hm9
              refine hK.out _ _ ?_
              clear hK K
              refine done_ (by kernel_rfl) ?_
              go_wp2_with fail
              go_ret3
              exact ⟨rfl, by rw [HRS.out]; exact H9.out, G9.out⟩
            · go_enter Try.func16, Try.ntmps16
              go_upto_region 2 with fail
              obtain ⟨W, hW⟩ : ∃ W, w.alloc (.cells #[.string q.t, .bool q.o, .bool false] 65) = W := ⟨_, rfl⟩
              obtain ⟨g, hg⟩ : ∃ g, w.heap.size = g := ⟨_, rfl⟩
              have X : Aside0 (W.heap[g]? = some (.cells #[.string q.t, .bool q.o, .bool false] 65 (0, 0))) := ⟨by rw [← hW, ← hg]; exact blk_new _ _⟩
              have L : Aside0 (Below w.heap.size w W) := ⟨by rw [← hW]; exact below_alloc HB.out _⟩
              have HG : Aside0 (w.heap.size ≤ g) := ⟨by omega⟩
              rw [hW, hg]
              clear hW hg z0 zl
              have x0 := blk_cell X.out 0
              have x2 := blk_cell X.out 2
              have y0 := blk_frozen X.out 0
              have y2 := blk_frozen X.out 2
              go_upto_region 14 with (go_at_call 27; refine (room_calls _ _ _ _ _).mono ?_; rintro e w' ⟨rfl, rfl⟩; rw [HK.out])
              clear x0 x2 y0 y2 hy
              obtain ⟨rs, hrs⟩ : ∃ s, q.t.extract k q.t.size = s := ⟨_, rfl⟩
              rw [hrs]
              have HRS := Aside0.mk hrs
              obtain ⟨W3, hW⟩ : ∃ W', (W.setCell ⟨g, 0, none⟩ (.string rs)) = W' := ⟨_, rfl⟩
              have X3 : Aside0 (W3.heap[g]? = some (.cells #[.string rs, .bool q.o, .bool false] 65 (0, 0))) := ⟨by rw [← hW]; exact blk_put X.out 0 (.string rs) rfl⟩
              have L3 : Aside0 (Below w.heap.size w W3) := ⟨by rw [← hW]; exact L.out.setCell (p := ⟨g, 0, none⟩) HG.out _⟩
              rw [hW]
              clear hW hrs X L
              have H3 := Aside0.mk (H.out.low L3.out)
              refine start_ (n := 7) (S := fun w' => w'.cell? ⟨p, 0, none⟩ = some (.map (some mb)) ∧ w'.cell? ⟨g, 0, none⟩ = some (.string rs) ∧ w'.cell? ⟨g, 1, none⟩ = some (.bool q.o) ∧ w'.cell? ⟨g, 2, none⟩ = some (.bool false) ∧ ShAt w' p mb n m ∧ Below w.heap.size w w') (ds := [6]) #[false, false, false, false, false, false, false] (by kernel_rfl) rfl rfl ⟨blk_cell (H3.out.low (below_drew (Below.refl _ _))).blk 0, blk_cell (blk_below X3.out (below_drew (Below.refl _ _))) 0, blk_cell (blk_below X3.out (below_drew (Below.refl _ _))) 1, blk_cell (blk_below X3.out (below_drew (Below.refl _ _))) 2, H3.out.low (below_drew (Below.refl _ _)), below_drew L3.out⟩ (fun hHeld => ?_)
              refine pure_ (i := 0) (N := some 72) (v := ?_) (a' := ?_) #[true, false, false, false, false, false, false] rfl rfl (by kernel_rfl) (fun _ _ _ h => h) (Or.inl ⟨by rfl, ?_⟩) ?_ ?_
              rotate_left
              · intro w'
                go_simp
                with_reducible rfl
              rotate_left
              · simp only [Act.put, List.setIfInBounds_toArray, List.set_cons_zero, List.set_cons_succ, i64_w, i32_w]
                rfl
              refine pure_ (i := 1) (N := some 73) (v := ?_) (a' := ?_) #[true, true, false, false, false, false, false] rfl rfl (by kernel_rfl) (fun _ _ _ h => h) (Or.inl ⟨by rfl, ?_⟩) ?_ ?_
              rotate_left
              · intro w'
                go_simp
                with_reducible rfl
              rotate_left
              · simp only [Act.put, List.setIfInBounds_toArray, List.set_cons_zero, List.set_cons_succ, i64_w, i32_w]
                rfl
              refine pure_ (i := 2) (N := some 74) (v := ?_) (a' := ?_) #[true, true, true, false, false, false, false] rfl rfl (by kernel_rfl) (fun _ _ _ h => h) (Or.inl ⟨by rfl, ?_⟩) ?_ ?_
              rotate_left
              · intro w'
                go_simp
                with_reducible rfl
              rotate_left
              · simp only [Act.put, List.setIfInBounds_toArray, List.set_cons_zero, List.set_cons_succ, i64_w, i32_w]
                rfl
              refine pure_ (i := 4) (N := some 76) (v := ?_) (a' := ?_) #[true, true, true, false, true, false, false] rfl rfl (by kernel_rfl) (fun _ _ _ h => h) (Or.inl ⟨by rfl, ?_⟩) ?_ ?_
              rotate_left
              · intro w'
                go_simp
                with_reducible rfl
              rotate_left
              · simp only [Act.put, List.setIfInBounds_toArray, List.set_cons_zero, List.set_cons_succ, i64_w, i32_w]
                rfl
              refine take_ (i := 3) (N := some 75) (v := ?_) (a' := ?_) #[true, true, true, true, true, false, false] rfl rfl (by kernel_rfl) (fun _ _ _ h => h) (Or.inl ⟨by rfl, ?_⟩) hHeld ?_ ?_
              rotate_left
              · rintro w' ⟨s0, s1, s2, s3, s4, s5⟩
                go_simp
                with_reducible rfl
              rotate_left
              · simp only [Act.put, List.setIfInBounds_toArray, List.set_cons_zero, List.set_cons_succ, i64_w, i32_w]
                rfl
              refine take_ (i := 5) (N := some 77) (v := ?_) (a' := ?_) #[true, true, true, true, true, true, false] rfl rfl (by kernel_rfl) (fun _ _ _ h => h) (Or.inl ⟨by rfl, ?_⟩) hHeld ?_ ?_
              rotate_left
              · rintro w' ⟨s0, s1, s2, s3, s4, s5⟩
                go_simp
                with_reducible rfl
              rotate_left
              · simp only [Act.put, List.setIfInBounds_toArray, List.set_cons_zero, List.set_cons_succ, i64_w, i32_w]
                rfl
              refine last_ (i := 6) (N := none) #[true, true, true, true, true, true, true] rfl rfl (by kernel_rfl) (by decide) (fun K hK => ?_)
              obtain ⟨w9, hrun, hm9, hg9⟩ := hHeld.2.2.2.2.1.mq.put HN.out HID.out.1 HID.out.2 ⟨rs, q.o, false⟩
              refine skip_ (w1 := ?_) (by rfl) rfl ?_ ?_
              rotate_left
              · go_simp
                rfl
              have H9 := Aside0.mk (hHeld.2.2.2.2.1.put hg9 hm9)
              have G9 := Aside0.mk (grown_then hHeld.2.2.2.2.2 hg9)
              clear hrun hm9
              refine hK.out _ _ ?_
              clear hK K
              refine done_ (by kernel_rfl) ?_
              go_wp2_with fail
              go_ret3
              exact ⟨rfl, by rw [HRS.out]; exact H9.out, G9.out⟩
          · cases y
            · go_enter Try.func16, Try.ntmps16
              go_upto_region 2 with fail
              obtain ⟨W, hW⟩ : ∃ W, w.alloc (.cells #[.string q.t, .bool q.o, .bool true] 65) = W := ⟨_, rfl⟩
              obtain ⟨g, hg⟩ : ∃ g, w.heap.size = g := ⟨_, rfl⟩
              have X : Aside0 (W.heap[g]? = some (.cells #[.string q.t, .bool q.o, .bool true] 65 (0, 0))) := ⟨by rw [← hW, ← hg]; exact blk_new _ _⟩
              have L : Aside0 (Below w.heap.size w W) := ⟨by rw [← hW]; exact below_alloc HB.out _⟩
              have HG : Aside0 (w.heap.size ≤ g) := ⟨by omega⟩
              rw [hW, hg]
              clear hW hg z0 zl
              have x0 := blk_cell X.out 0
              have x2 := blk_cell X.out 2
              have y0 := blk_frozen X.out 0
              have y2 := blk_frozen X.out 2
              go_upto_region 14 with (go_at_call 27; refine (room_calls _ _ _ _ _).mono ?_; rintro e w' ⟨rfl, rfl⟩; rw [HK.out])
              clear x0 x2 y0 y2 hy
              obtain ⟨rs, hrs⟩ : ∃ s, q.t.extract k q.t.size = s := ⟨_, rfl⟩
              rw [hrs]
              have HRS := Aside0.mk hrs
              obtain ⟨W3, hW⟩ : ∃ W', (W.setCell ⟨g, 0, none⟩ (.string rs)) = W' := ⟨_, rfl⟩
              have X3 : Aside0 (W3.heap[g]? = some (.cells #[.string rs, .bool q.o, .bool true] 65 (0, 0))) := ⟨by rw [← hW]; exact blk_put X.out 0 (.string rs) rfl⟩
              have L3 : Aside0 (Below w.heap.size w W3) := ⟨by rw [← hW]; exact L.out.setCell (p := ⟨g, 0, none⟩) HG.out _⟩
              rw [hW]
              clear hW hrs X L
              have H3 := Aside0.mk (H.out.low L3.out)
              refine start_ (n := 7) (S := fun w' => w'.cell? ⟨p, 0, none⟩ = some (.map (some mb)) ∧ w'.cell? ⟨g, 0, none⟩ = some (.string rs) ∧ w'.cell? ⟨g, 1, none⟩ = some (.bool q.o) ∧ w'.cell? ⟨g, 2, none⟩ = some (.bool true) ∧ ShAt w' p mb n m ∧ Below w.heap.size w w') (ds := [6]) #[false, false, false, false, false, false, false] (by kernel_rfl) rfl rfl ⟨blk_cell (H3.out.low (below_drew (Below.refl _ _))).blk 0, blk_cell (blk_below X3.out (below_drew (Below.refl _ _))) 0, blk_cell (blk_below X3.out (below_drew (Below.refl _ _))) 1, blk_cell (blk_below X3.out (below_drew (Below.refl _ _))) 2, H3.out.low (below_drew (Below.refl _ _)), below_drew L3.out⟩ (fun hHeld => ?_)
              refine pure_ (i := 0) (N := some 72) (v := ?_) (a' := ?_) #[true, false, false, false, false, false, false] rfl rfl (by kernel_rfl) (fun _ _ _ h => h) (Or.inl ⟨by rfl, ?_⟩) ?_ ?_
              rotate_left
              · intro w'
                go_simp
                with_reducible rfl
              rotate_left
              · simp only [Act.put, List.setIfInBounds_toArray, List.set_cons_zero, List.set_cons_succ, i64_w, i32_w]
                rfl
              refine pure_ (i := 1) (N := some 73) (v := ?_) (a' := ?_) #[true, true, false, false, false, false, false] rfl rfl (by kernel_rfl) (fun _ _ _ h => h) (Or.inl ⟨by rfl, ?_⟩) ?_ ?_
              rotate_left
              · intro w'
                go_simp
                with_reducible rfl
              rotate_left
              · simp only [Act.put, List.setIfInBounds_toArray, List.set_cons_zero, List.set_cons_succ, i64_w, i32_w]
                rfl
              refine pure_ (i := 2) (N := some 74) (v := ?_) (a' := ?_) #[true, true, true, false, false, false, false] rfl rfl (by kernel_rfl) (fun _ _ _ h => h) (Or.inl ⟨by rfl, ?_⟩) ?_ ?_
              rotate_left
              · intro w'
                go_simp
                with_reducible rfl
              rotate_left
              · simp only [Act.put, List.setIfInBounds_toArray, List.set_cons_zero, List.set_cons_succ, i64_w, i32_w]
                rfl
              refine pure_ (i := 4) (N := some 76) (v := ?_) (a' := ?_) #[true, true, true, false, true, false, false] rfl rfl (by kernel_rfl) (fun _ _ _ h => h) (Or.inl ⟨by rfl, ?_⟩) ?_ ?_
              rotate_left
              · intro w'
                go_simp
                with_reducible rfl
              rotate_left
              · simp only [Act.put, List.setIfInBounds_toArray, List.set_cons_zero, List.set_cons_succ, i64_w, i32_w]
                rfl
              refine take_ (i := 3) (N := some 75) (v := ?_) (a' := ?_) #[true, true, true, true, true, false, false] rfl rfl (by kernel_rfl) (fun _ _ _ h => h) (Or.inl ⟨by rfl, ?_⟩) hHeld ?_ ?_
              rotate_left
              · rintro w' ⟨s0, s1, s2, s3, s4, s5⟩
                go_simp
                with_reducible rfl
              rotate_left
              · simp only [Act.put, List.setIfInBounds_toArray, List.set_cons_zero, List.set_cons_succ, i64_w, i32_w]
                rfl
              refine take_ (i := 5) (N := some 77) (v := ?_) (a' := ?_) #[true, true, true, true, true, true, false] rfl rfl (by kernel_rfl) (fun _ _ _ h => h) (Or.inl ⟨by rfl, ?_⟩) hHeld ?_ ?_
              rotate_left
              · rintro w' ⟨s0, s1, s2, s3, s4, s5⟩
                go_simp
                with_reducible rfl
              rotate_left
              · simp only [Act.put, List.setIfInBounds_toArray, List.set_cons_zero, List.set_cons_succ, i64_w, i32_w]
                rfl
              refine last_ (i := 6) (N := none) #[true, true, true, true, true, true, true] rfl rfl (by kernel_rfl) (by decide) (fun K hK => ?_)
              obtain ⟨w9, hrun, hm9, hg9⟩ := hHeld.2.2.2.2.1.mq.put HN.out HID.out.1 HID.out.2 ⟨rs, q.o, true⟩
              refine skip_ (w1 := ?_) (by rfl) rfl ?_ ?_
              rotate_left
              · go_simp
                rfl
              have H9 := Aside0.mk (hHeld.2.2.2.2.1.put hg9 hm9)
              have G9 := Aside0.mk (grown_then hHeld.2.2.2.2.2 hg9)
              clear hrun hm9
              refine hK.out _ _ ?_
              clear hK K
              refine done_ (by kernel_rfl) ?_
              go_wp2_with fail
              go_ret3
              exact ⟨rfl, by rw [HRS.out]; exact H9.out, G9.out⟩
            · go_enter Try.func16, Try.ntmps16
              go_upto_region 2 with fail
              obtain ⟨W, hW⟩ : ∃ W, w.alloc (.cells #[.string q.t, .bool q.o, .bool true] 65) = W := ⟨_, rfl⟩
              obtain ⟨g, hg⟩ : ∃ g, w.heap.size = g := ⟨_, rfl⟩
              have X : Aside0 (W.heap[g]? = some (.cells #[.string q.t, .bool q.o, .bool true] 65 (0, 0))) := ⟨by rw [← hW, ← hg]; exact blk_new _ _⟩
              have L : Aside0 (Below w.heap.size w W) := ⟨by rw [← hW]; exact below_alloc HB.out _⟩
              have HG : Aside0 (w.heap.size ≤ g) := ⟨by omega⟩
              rw [hW, hg]
              clear hW hg z0 zl
              have x0 := blk_cell X.out 0
              have x2 := blk_cell X.out 2
              have y0 := blk_frozen X.out 0
              have y2 := blk_frozen X.out 2
              go_upto_region 14 with (go_at_call 27; refine (room_calls _ _ _ _ _).mono ?_; rintro e w' ⟨rfl, rfl⟩; rw [HK.out])
              clear x0 x2 y0 y2 hy
              obtain ⟨rs, hrs⟩ : ∃ s, q.t.extract k q.t.size = s := ⟨_, rfl⟩
              rw [hrs]
              have HRS := Aside0.mk hrs
              obtain ⟨W3, hW⟩ : ∃ W', ((W.setCell ⟨g, 0, none⟩ (.string rs)).setCell ⟨g, 2, none⟩ (.bool false)) = W' := ⟨_, rfl⟩
              have X3 : Aside0 (W3.heap[g]? = some (.cells #[.string rs, .bool q.o, .bool false] 65 (0, 0))) := ⟨by rw [← hW]; exact blk_put (blk_put X.out 0 (.string rs) rfl) 2 (.bool false) rfl⟩
              have L3 : Aside0 (Below w.heap.size w W3) := ⟨by rw [← hW]; exact (L.out.setCell (p := ⟨g, 0, none⟩) HG.out _).setCell (p := ⟨g, 2, none⟩) HG.out _⟩
              rw [hW]
              clear hW hrs X L
              have H3 := Aside0.mk (H.out.low L3.out)
              refine start_ (n := 7) (S := fun w' => w'.cell? ⟨p, 0, none⟩ = some (.map (some mb)) ∧ w'.cell? ⟨g, 0, none⟩ = some (.string rs) ∧ w'.cell? ⟨g, 1, none⟩ = some (.bool q.o) ∧ w'.cell? ⟨g, 2, none⟩ = some (.bool false) ∧ ShAt w' p mb n m ∧ Below w.heap.size w w') (ds := [6]) #[false, false, false, false, false, false, false] (by kernel_rfl) rfl rfl ⟨blk_cell (H3.out.low (below_drew (Below.refl _ _))).blk 0, blk_cell (blk_below X3.out (below_drew (Below.refl _ _))) 0, blk_cell (blk_below X3.out (below_drew (Below.refl _ _))) 1, blk_cell (blk_below X3.out (below_drew (Below.refl _ _))) 2, H3.out.low (below_drew (Below.refl _ _)), below_drew L3.out⟩ (fun hHeld => ?_)
              refine pure_ (i := 0) (N := some 72) (v := ?_) (a' := ?_) #[true, false, false, false, false, false, false] rfl rfl (by kernel_rfl) (fun _ _ _ h => h) (Or.inl ⟨by rfl, ?_⟩) ?_ ?_
              rotate_left
              · intro w'
                go_simp
                with_reducible rfl
              rotate_left
              · simp only [Act.put, List.setIfInBounds_toArray, List.set_cons_zero, List.set_cons_succ, i64_w, i32_w]
                rfl
              refine pure_ (i := 1) (N := some 73) (v := ?_) (a' := ?_) #[true, true, false, false, false, false, false] rfl rfl (by kernel_rfl) (fun _ _ _ h => h) (Or.inl ⟨by rfl, ?_⟩) ?_ ?_
              rotate_left
              · intro w'
                go_simp
                with_reducible rfl
              rotate_left
              · simp only [Act.put, List.setIfInBounds_toArray, List.set_cons_zero, List.set_cons_succ, i64_w, i32_w]
                rfl
              refine pure_ (i := 2) (N := some 74) (v := ?_) (a' := ?_) #[true, true, true, false, false, false, false] rfl rfl (by kernel_rfl) (fun _ _ _ h => h) (Or.inl ⟨by rfl, ?_⟩) ?_ ?_
              rotate_left
              · intro w'
                go_simp
                with_reducible rfl
              rotate_left
              · simp only [Act.put, List.setIfInBounds_toArray, List.set_cons_zero, List.set_cons_succ, i64_w, i32_w]
                rfl
              refine pure_ (i := 4) (N := some 76) (v := ?_) (a' := ?_) #[true, true, true, false, true, false, false] rfl rfl (by kernel_rfl) (fun _ _ _ h => h) (Or.inl ⟨by rfl, ?_⟩) ?_ ?_
              rotate_left
              · intro w'
                go_simp
                with_reducible rfl
              rotate_left
              · simp only [Act.put, List.setIfInBounds_toArray, List.set_cons_zero, List.set_cons_succ, i64_w, i32_w]
                rfl
              refine take_ (i := 3) (N := some 75) (v := ?_) (a' := ?_) #[true, true, true, true, true, false, false] rfl rfl (by kernel_rfl) (fun _ _ _ h => h) (Or.inl ⟨by rfl, ?_⟩) hHeld ?_ ?_
              rotate_left
              · rintro w' ⟨s0, s1, s2, s3, s4, s5⟩
                go_simp
                with_reducible rfl
              rotate_left
              · simp only [Act.put, List.setIfInBounds_toArray, List.set_cons_zero, List.set_cons_succ, i64_w, i32_w]
                rfl
              refine take_ (i := 5) (N := some 77) (v := ?_) (a' := ?_) #[true, true, true, true, true, true, false] rfl rfl (by kernel_rfl) (fun _ _ _ h => h) (Or.inl ⟨by rfl, ?_⟩) hHeld ?_ ?_
              rotate_left
              · rintro w' ⟨s0, s1, s2, s3, s4, s5⟩
                go_simp
                with_reducible rfl
              rotate_left
              · simp only [Act.put, List.setIfInBounds_toArray, List.set_cons_zero, List.set_cons_succ, i64_w, i32_w]
                rfl
              refine last_ (i := 6) (N := none) #[true, true, true, true, true, true, true] rfl rfl (by kernel_rfl) (by decide) (fun K hK => ?_)
              obtain ⟨w9, hrun, hm9, hg9⟩ := hHeld.2.2.2.2.1.mq.put HN.out HID.out.1 HID.out.2 ⟨rs, q.o, false⟩
              refine skip_ (w1 := ?_) (by rfl) rfl ?_ ?_
              rotate_left
              · go_simp
                rfl
              have H9 := Aside0.mk (hHeld.2.2.2.2.1.put hg9 hm9)
              have G9 := Aside0.mk (grown_then hHeld.2.2.2.2.2 hg9)
              clear hrun hm9
              refine hK.out _ _ ?_
              clear hK K
              refine done_ (by kernel_rfl) ?_
              go_wp2_with fail
              go_ret3
              exact ⟨rfl, by rw [HRS.out]; exact H9.out, G9.out⟩
        · cases qe
          · exact absurd ⟨rfl, rfl⟩ h2
          · clear h2 h3 d5
            cases y
            · go_enter Try.func16, Try.ntmps16
              go_upto_region 2 with fail
              obtain ⟨W, hW⟩ : ∃ W, w.alloc (.cells #[.string q.t, .bool q.o, .bool true] 65) = W := ⟨_, rfl⟩
              obtain ⟨g, hg⟩ : ∃ g, w.heap.size = g := ⟨_, rfl⟩
              have X : Aside0 (W.heap[g]? = some (.cells #[.string q.t, .bool q.o, .bool true] 65 (0, 0))) := ⟨by rw [← hW, ← hg]; exact blk_new _ _⟩
              have L : Aside0 (Below w.heap.size w W) := ⟨by rw [← hW]; exact below_alloc HB.out _⟩
              have HG : Aside0 (w.heap.size ≤ g) := ⟨by omega⟩
              rw [hW, hg]
              clear hW hg z0 zl
              have x0 := blk_cell X.out 0
              have x2 := blk_cell X.out 2
              have y0 := blk_frozen X.out 0
              have y2 := blk_frozen X.out 2
              go_upto_region 14 with (go_at_call 27; refine (room_calls _ _ _ _ _).mono ?_; rintro e w' ⟨rfl, rfl⟩; rw [HK.out])
              clear x0 x2 y0 y2 hy
              obtain ⟨rs, hrs⟩ : ∃ s, q.t.extract k q.t.size = s := ⟨_, rfl⟩
              rw [hrs]
              have HRS := Aside0.mk hrs
              obtain ⟨W3, hW⟩ : ∃ W', (W.setCell ⟨g, 0, none⟩ (.string rs)) = W' := ⟨_, rfl⟩
              have X3 : Aside0 (W3.heap[g]? = some (.cells #[.string rs, .bool q.o, .bool true] 65 (0, 0))) := ⟨by rw [← hW]; exact blk_put X.out 0 (.string rs) rfl⟩
              have L3 : Aside0 (Below w.heap.size w W3) := ⟨by rw [← hW]; exact L.out.setCell (p := ⟨g, 0, none⟩) HG.out _⟩
              rw [hW]
              clear hW hrs X L
              have H3 := Aside0.mk (H.out.low L3.out)
              refine start_ (n := 7) (S := fun w' => w'.cell? ⟨p, 0, none⟩ = some (.map (some mb)) ∧ w'.cell? ⟨g, 0, none⟩ = some (.string rs) ∧ w'.cell? ⟨g, 1, none⟩ = some (.bool q.o) ∧ w'.cell? ⟨g, 2, none⟩ = some (.bool true) ∧ ShAt w' p mb n m ∧ Below w.heap.size w w') (ds := [6]) #[false, false, false, false, false, false, false] (by kernel_rfl) rfl rfl ⟨blk_cell (H3.out.low (below_drew (Below.refl _ _))).blk 0, blk_cell (blk_below X3.out (below_drew (Below.refl _ _))) 0, blk_cell (blk_below X3.out (below_drew (Below.refl _ _))) 1, blk_cell (blk_below X3.out (below_drew (Below.refl _ _))) 2, H3.out.low (below_drew (Below.refl _ _)), below_drew L3.out⟩ (fun hHeld => ?_)
              refine pure_ (i := 0) (N := some 72) (v := ?_) (a' := ?_) #[true, false, false, false, false, false, false] rfl rfl (by kernel_rfl) (fun _ _ _ h => h) (Or.inl ⟨by rfl, ?_⟩) ?_ ?_
              rotate_left
              · intro w'
                go_simp
                with_reducible rfl
              rotate_left
              · simp only [Act.put, List.setIfInBounds_toArray, List.set_cons_zero, List.set_cons_succ, i64_w, i32_w]
                rfl
              refine pure_ (i := 1) (N := some 73) (v := ?_) (a' := ?_) #[true, true, false, false, false, false, false] rfl rfl (by kernel_rfl) (fun _ _ _ h => h) (Or.inl ⟨by rfl, ?_⟩) ?_ ?_
              rotate_left
              · intro w'
                go_simp
                with_reducible rfl
              rotate_left
              · simp only [Act.put, List.setIfInBounds_toArray, List.set_cons_zero, List.set_cons_succ, i64_w, i32_w]
                rfl
              refine pure_ (i := 2) (N := some 74) (v := ?_) (a' := ?_) #[true, true, true, false, false, false, false] rfl rfl (by kernel_rfl) (fun _ _ _ h => h) (Or.inl ⟨by rfl, ?_⟩) ?_ ?_
              rotate_left
              · intro w'
                go_simp
                with_reducible rfl
              rotate_left
              · simp only [Act.put, List.setIfInBounds_toArray, List.set_cons_zero, List.set_cons_succ, i64_w, i32_w]
                rfl
              refine pure_ (i := 4) (N := some 76) (v := ?_) (a' := ?_) #[true, true, true, false, true, false, false] rfl rfl (by kernel_rfl) (fun _ _ _ h => h) (Or.inl ⟨by rfl, ?_⟩) ?_ ?_
              rotate_left
              · intro w'
                go_simp
                with_reducible rfl
              rotate_left
              · simp only [Act.put, List.setIfInBounds_toArray, List.set_cons_zero, List.set_cons_succ, i64_w, i32_w]
                rfl
              refine take_ (i := 3) (N := some 75) (v := ?_) (a' := ?_) #[true, true, true, true, true, false, false] rfl rfl (by kernel_rfl) (fun _ _ _ h => h) (Or.inl ⟨by rfl, ?_⟩) hHeld ?_ ?_
              rotate_left
              · rintro w' ⟨s0, s1, s2, s3, s4, s5⟩
                go_simp
                with_reducible rfl
              rotate_left
              · simp only [Act.put, List.setIfInBounds_toArray, List.set_cons_zero, List.set_cons_succ, i64_w, i32_w]
                rfl
              refine take_ (i := 5) (N := some 77) (v := ?_) (a' := ?_) #[true, true, true, true, true, true, false] rfl rfl (by kernel_rfl) (fun _ _ _ h => h) (Or.inl ⟨by rfl, ?_⟩) hHeld ?_ ?_
              rotate_left
              · rintro w' ⟨s0, s1, s2, s3, s4, s5⟩
                go_simp
                with_reducible rfl
              rotate_left
              · simp only [Act.put, List.setIfInBounds_toArray, List.set_cons_zero, List.set_cons_succ, i64_w, i32_w]
                rfl
              refine last_ (i := 6) (N := none) #[true, true, true, true, true, true, true] rfl rfl (by kernel_rfl) (by decide) (fun K hK => ?_)
              obtain ⟨w9, hrun, hm9, hg9⟩ := hHeld.2.2.2.2.1.mq.put HN.out HID.out.1 HID.out.2 ⟨rs, q.o, true⟩
              refine skip_ (w1 := ?_) (by rfl) rfl ?_ ?_
              rotate_left
              · go_simp
                rfl
              have H9 := Aside0.mk (hHeld.2.2.2.2.1.put hg9 hm9)
              have G9 := Aside0.mk (grown_then hHeld.2.2.2.2.2 hg9)
              clear hrun hm9
              refine hK.out _ _ ?_
              clear hK K
              refine done_ (by kernel_rfl) ?_
              go_wp2_with fail
              go_ret3
              exact ⟨rfl, by rw [HRS.out]; exact H9.out, G9.out⟩
            · go_enter Try.func16, Try.ntmps16
              go_upto_region 2 with fail
              obtain ⟨W, hW⟩ : ∃ W, w.alloc (.cells #[.string q.t, .bool q.o, .bool true] 65) = W := ⟨_, rfl⟩
              obtain ⟨g, hg⟩ : ∃ g, w.heap.size = g := ⟨_, rfl⟩
              have X : Aside0 (W.heap[g]? = some (.cells #[.string q.t, .bool q.o, .bool true] 65 (0, 0))) := ⟨by rw [← hW, ← hg]; exact blk_new _ _⟩
              have L : Aside0 (Below w.heap.size w W) := ⟨by rw [← hW]; exact below_alloc HB.out _⟩
              have HG : Aside0 (w.heap.size ≤ g) := ⟨by omega⟩
              rw [hW, hg]
              clear hW hg z0 zl
              have x0 := blk_cell X.out 0
              have x2 := blk_cell X.out 2
              have y0 := blk_frozen X.out 0
              have y2 := blk_frozen X.out 2
              go_upto_region 14 with (go_at_call 27; refine (room_calls _ _ _ _ _).mono ?_; rintro e w' ⟨rfl, rfl⟩; rw [HK.out])
              clear x0 x2 y0 y2 hy
              obtain ⟨rs, hrs⟩ : ∃ s, q.t.extract k q.t.size = s := ⟨_, rfl⟩
              rw [hrs]
              have HRS := Aside0.mk hrs
              obtain ⟨W3, hW⟩ : ∃ W', ((W.setCell ⟨g, 0, none⟩ (.string rs)).setCell ⟨g, 2, none⟩ (.bool false)) = W' := ⟨_, rfl⟩
              have X3 : Aside0 (W3.heap[g]? = some (.cells #[.string rs, .bool q.o, .bool false] 65 (0, 0))) := ⟨by rw [← hW]; exact blk_put (blk_put X.out 0 (.string rs) rfl) 2 (.bool false) rfl⟩
              have L3 : Aside0 (Below w.heap.size w W3) := ⟨by rw [← hW]; exact (L.out.setCell (p := ⟨g, 0, none⟩) HG.out _).setCell (p := ⟨g, 2, none⟩) HG.out _⟩
              rw [hW]
              clear hW hrs X L
              have H3 := Aside0.mk (H.out.low L3.out)
              refine start_ (n := 7) (S := fun w' => w'.cell? ⟨p, 0, none⟩ = some (.map (some mb)) ∧ w'.cell? ⟨g, 0, none⟩ = some (.string rs) ∧ w'.cell? ⟨g, 1, none⟩ = some (.bool q.o) ∧ w'.cell? ⟨g, 2, none⟩ = some (.bool false) ∧ ShAt w' p mb n m ∧ Below w.heap.size w w') (ds := [6]) #[false, false, false, false, false, false, false] (by kernel_rfl) rfl rfl ⟨blk_cell (H3.out.low (below_drew (Below.refl _ _))).blk 0, blk_cell (blk_below X3.out (below_drew (Below.refl _ _))) 0, blk_cell (blk_below X3.out (below_drew (Below.refl _ _))) 1, blk_cell (blk_below X3.out (below_drew (Below.refl _ _))) 2, H3.out.low (below_drew (Below.refl _ _)), below_drew L3.out⟩ (fun hHeld => ?_)
              refine pure_ (i := 0) (N := some 72) (v := ?_) (a' := ?_) #[true, false, false, false, false, false, false] rfl rfl (by kernel_rfl) (fun _ _ _ h => h) (Or.inl ⟨by rfl, ?_⟩) ?_ ?_
              rotate_left
              · intro w'
                go_simp
                with_reducible rfl
              rotate_left
              · simp only [Act.put, List.setIfInBounds_toArray, List.set_cons_zero, List.set_cons_succ, i64_w, i32_w]
                rfl
              refine pure_ (i := 1) (N := some 73) (v := ?_) (a' := ?_) #[true, true, false, false, false, false, false] rfl rfl (by kernel_rfl) (fun _ _ _ h => h) (Or.inl ⟨by rfl, ?_⟩) ?_ ?_
              rotate_left
              · intro w'
                go_simp
                with_reducible rfl
              rotate_left
              · simp only [Act.put, List.setIfInBounds_toArray, List.set_cons_zero, List.set_cons_succ, i64_w, i32_w]
                rfl
              refine pure_ (i := 2) (N := some 74) (v := ?_) (a' := ?_) #[true, true, true, false, false, false, false] rfl rfl (by kernel_rfl) (fun _ _ _ h => h) (Or.inl ⟨by rfl, ?_⟩) ?_ ?_
              rotate_left
              · intro w'
                go_simp
                with_reducible rfl
              rotate_left
              · simp only [Act.put, List.setIfInBounds_toArray, List.set_cons_zero, List.set_cons_succ, i64_w, i32_w]
                rfl
              refine pure_ (i := 4) (N := some 76) (v := ?_) (a' := ?_) #[true, true, true, false, true, false, false] rfl rfl (by kernel_rfl) (fun _ _ _ h => h) (Or.inl ⟨by rfl, ?_⟩) ?_ ?_
              rotate_left
              · intro w'
                go_simp
                with_reducible rfl
              rotate_left
              · simp only [Act.put, List.setIfInBounds_toArray, List.set_cons_zero, List.set_cons_succ, i64_w, i32_w]
                rfl
              refine take_ (i := 3) (N := some 75) (v := ?_) (a' := ?_) #[true, true, true, true, true, false, false] rfl rfl (by kernel_rfl) (fun _ _ _ h => h) (Or.inl ⟨by rfl, ?_⟩) hHeld ?_ ?_
              rotate_left
              · rintro w' ⟨s0, s1, s2, s3, s4, s5⟩
                go_simp
                with_reducible rfl
              rotate_left
              · simp only [Act.put, List.setIfInBounds_toArray, List.set_cons_zero, List.set_cons_succ, i64_w, i32_w]
                rfl
              refine take_ (i := 5) (N := some 77) (v := ?_) (a' := ?_) #[true, true, true, true, true, true, false] rfl rfl (by kernel_rfl) (fun _ _ _ h => h) (Or.inl ⟨by rfl, ?_⟩) hHeld ?_ ?_
              rotate_left
              · rintro w' ⟨s0, s1, s2, s3, s4, s5⟩
                go_simp
                with_reducible rfl
              rotate_left
              · simp only [Act.put, List.setIfInBounds_toArray, List.set_cons_zero, List.set_cons_succ, i64_w, i32_w]
                rfl
              refine last_ (i := 6) (N := none) #[true, true, true, true, true, true, true] rfl rfl (by kernel_rfl) (by decide) (fun K hK => ?_)
              obtain ⟨w9, hrun, hm9, hg9⟩ := hHeld.2.2.2.2.1.mq.put HN.out HID.out.1 HID.out.2 ⟨rs, q.o, false⟩
              refine skip_ (w1 := ?_) (by rfl) rfl ?_ ?_
              rotate_left
              · go_simp
                rfl
              have H9 := Aside0.mk (hHeld.2.2.2.2.1.put hg9 hm9)
              have G9 := Aside0.mk (grown_then hHeld.2.2.2.2.2 hg9)
              clear hrun hm9
              refine hK.out _ _ ?_
              clear hK K
              refine done_ (by kernel_rfl) ?_
              go_wp2_with fail
              go_ret3
              exact ⟨rfl, by rw [HRS.out]; exact H9.out, G9.out⟩
end Go.Proofs.Ytedkjbdkokdgdaa.Sh
