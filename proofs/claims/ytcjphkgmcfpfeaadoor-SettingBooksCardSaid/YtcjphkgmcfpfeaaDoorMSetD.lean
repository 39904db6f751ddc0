/- The book of the package setting, by hand: what it holds, Default, NewBook, Acked, Waiting, Send. No condition but those in each statement. -/
import Derived.Test.YtcjphkgmcfpfeaaDoorMSetC
namespace Go.Proofs.YtcjphkgmcfpfeaaDoor.MS
open Go Go.RowKit Go.Proofs.YtcjphkgmcfpfeaaDoorW.PrintWords Go.Proofs.YtcjphkgmcfpfeaaDoorW.PrintLast Go.Proofs.YtcjphkgmcfpfeaaDoorW.PrintMore Go.Proofs.YtcjphkgmcfpfeaaDoor.QL
set_option linter.unusedSimpArgs false
set_option linter.unusedVariables false
set_option maxHeartbeats 4000000
set_option maxRecDepth 100000
theorem info24 : (Tryd.prog.info? 24).map (fun i => (i.zero, i.size, i.bytes)) = some (some (.slice none 0 0), (Kd.slice 28 k28).sz, 24) := by kernel_rfl
def init : St := ⟨4096, 1, 2147483647, 65535, 16384, 2147483647⟩
/-- The package's variable holds what the program lays. -/
def GL (w : World) : Prop := w.cell? ⟨1, 0, none⟩ = some (.int .i64 4096) ∧ w.cell? ⟨1, 1, none⟩ = some (.int .i64 1) ∧ w.cell? ⟨1, 2, none⟩ = some (.int .i64 2147483647) ∧ w.cell? ⟨1, 3, none⟩ = some (.int .i64 65535) ∧ w.cell? ⟨1, 4, none⟩ = some (.int .i64 16384) ∧ w.cell? ⟨1, 5, none⟩ = some (.int .i64 2147483647)
theorem GL.below {w w1 : World} (h : GL w) (hb : Below w.heap.size w w1) : GL w1 := by
  obtain ⟨h0, h1, h2, h3, h4, h5⟩ := h
  exact ⟨pw_cell_below hb h0, pw_cell_below hb h1, pw_cell_below hb h2, pw_cell_below hb h3, pw_cell_below hb h4, pw_cell_below hb h5⟩
theorem GL.drewN {w : World} (h : GL w) (n : Nat) : GL (w.drewN n) := h
def cells (cl : Bool) (s : St) (v : Value) : Array Value := #[.bool cl, .int .i64 s.a, .int .i64 s.b, .int .i64 s.c, .int .i64 s.d, .int .i64 s.e, .int .i64 s.f, v]
/-- A book at block g, its blocks among F. -/
structure Bk (base : Nat) (W : World) (g : Nat) (F : Nat → Prop) (cl : Bool) (s : St) (ls : List (List S28)) (v : Value) : Prop where
  blk : W.heap[g]? = some (.cells (cells cl s v) 70 (0, 0))
  mem : F g
  bound : ∀ k, F k → base ≤ k ∧ k < W.heap.size
  row : (Kd.slice 28 k28).Q 24 W base (fun k => F k ∧ k ≠ g) v ls
  few : ls.length ≤ 64
def IsB (base : Nat) (W : World) (g : Nat) (F : Nat → Prop) (cl : Bool) (s : St) (ls : List (List S28)) : Prop := ∃ v, Bk base W g F cl s ls v
theorem Bk.kept {base : Nat} {W W1 : World} {g : Nat} {F S : Nat → Prop} {cl : Bool} {s : St} {ls : List (List S28)} {v : Value} (h : Bk base W g F cl s ls v) (k : Kept W W1 S) (hs : ∀ i, F i → ¬ S i) : Bk base W1 g F cl s ls v :=
  ⟨blk_kept h.blk k (hs g h.mem), h.mem, fun i hi => ⟨(h.bound i hi).1, Nat.lt_of_lt_of_le (h.bound i hi).2 k.1⟩, Kd.Q_kept h.row k (fun i hi => hs i hi.1), h.few⟩
theorem Bk.below {base : Nat} {W W1 : World} {g : Nat} {F : Nat → Prop} {cl : Bool} {s : St} {ls : List (List S28)} {v : Value} (h : Bk base W g F cl s ls v) (k : Below W.heap.size W W1) : Bk base W1 g F cl s ls v := h.kept (Kept.of_below k (fun _ => False)) (fun _ _ => id)
theorem IsB.kept {base : Nat} {W W1 : World} {g : Nat} {F S : Nat → Prop} {cl : Bool} {s : St} {ls : List (List S28)} (h : IsB base W g F cl s ls) (k : Kept W W1 S) (hs : ∀ i, F i → ¬ S i) : IsB base W1 g F cl s ls := by
  obtain ⟨v, h⟩ := h
  exact ⟨v, h.kept k hs⟩
theorem IsB.below {base : Nat} {W W1 : World} {g : Nat} {F : Nat → Prop} {cl : Bool} {s : St} {ls : List (List S28)} (h : IsB base W g F cl s ls) (k : Below W.heap.size W W1) : IsB base W1 g F cl s ls := h.kept (Kept.of_below k (fun _ => False)) (fun _ _ => id)
theorem below_lo {B B' : Nat} {w w' : World} (h : Below B w w') (hb : B' ≤ B) : Below B' w w' := ⟨h.os, h.tape, h.output, h.size, fun k hk => h.block k (by omega)⟩
theorem default_calls (w : World) (hG : GL w) : Calls Tryd.prog 19 #[] w fun e w' => e = .returned (.agg init.arr) ∧ Below w.heap.size w w' := by
  have HB := Aside0.mk (Below.refl w.heap.size w)
  obtain ⟨h0, h1, h2, h3, h4, h5⟩ := hG
  have hlt := World.block_lt_of_cell? w _ h0
  go_enter Tryd.func19, Tryd.ntmps19
  go_wp2_with fail
  refine bodyPost_ret (v := .agg init.arr) (by simp [results, Tryd.results19, go_sem, St.arr, init, *]) rfl ⟨rfl, ?_⟩
  exact below_alloc HB.out _
theorem new_calls (cl : Bool) (w : World) (hG : GL w) : Calls Tryd.prog 25 #[.bool cl] w fun e w' => ∃ g, e = .returned (.pointer (some ⟨g, 0, none⟩)) ∧ IsB w.heap.size w' g (fun k => k = g) cl init [] ∧ w.heap.size ≤ g ∧ Below w.heap.size w w' := by
  have HB := Aside0.mk (Below.refl w.heap.size w)
  obtain ⟨h0, h1, h2, h3, h4, h5⟩ := hG
  have hlt := World.block_lt_of_cell? w _ h0
  go_enter Tryd.func25, Tryd.ntmps25
  go_wp2_with fail
  go_ret
  refine ⟨_, rfl, ⟨_, ?_, rfl, ?_, Kd.Q_nil _ _ _ _ _, by simp⟩, Nat.le_refl _, ?_⟩
  · exact blk_new w _
  · rintro k rfl; simp
  · exact below_alloc HB.out _
theorem acked_calls (base g : Nat) (F : Nat → Prop) (cl : Bool) (s : St) (ls : List (List S28)) (w : World) (h : IsB base w g F cl s ls) : Calls Tryd.prog 28 #[.pointer (some ⟨g, 0, none⟩)] w fun e w' => e = .returned (.agg s.arr) ∧ Below w.heap.size w w' := by
  have HB := Aside0.mk (Below.refl w.heap.size w)
  obtain ⟨v, h⟩ := h
  have z1 : w.cell? ⟨g, 1, none⟩ = some (.int .i64 s.a) := blk_cell h.blk 1
  have z2 : w.cell? ⟨g, 2, none⟩ = some (.int .i64 s.b) := blk_cell h.blk 2
  have z3 : w.cell? ⟨g, 3, none⟩ = some (.int .i64 s.c) := blk_cell h.blk 3
  have z4 : w.cell? ⟨g, 4, none⟩ = some (.int .i64 s.d) := blk_cell h.blk 4
  have z5 : w.cell? ⟨g, 5, none⟩ = some (.int .i64 s.e) := blk_cell h.blk 5
  have z6 : w.cell? ⟨g, 6, none⟩ = some (.int .i64 s.f) := blk_cell h.blk 6
  have hlt := blk_lt h.blk
  clear h
  go_enter Tryd.func28, Tryd.ntmps28
  go_wp2_with fail
  refine bodyPost_ret (v := .agg s.arr) (by simp [results, Tryd.results28, go_sem, St.arr, *]) rfl ⟨rfl, ?_⟩
  exact below_alloc HB.out _
theorem waiting_calls (base g : Nat) (F : Nat → Prop) (cl : Bool) (s : St) (ls : List (List S28)) (w : World) (h : IsB base w g F cl s ls) : Calls Tryd.prog 34 #[.pointer (some ⟨g, 0, none⟩)] w fun e w' => e = .returned (.int .i64 ls.length) ∧ Below w.heap.size w w' := by
  have HB := Aside0.mk (Below.refl w.heap.size w)
  obtain ⟨v, h⟩ := h
  obtain ⟨A, c, rfl, hc⟩ := Kd.Q_slice h.row
  have z7 : w.cell? ⟨g, 7, none⟩ = some (.slice A ls.length c) := blk_cell h.blk 7
  have hf := h.few
  clear h
  go_enter Tryd.func34, Tryd.ntmps34
  go_wp2_with fail
  go_ret
  exact ⟨rfl, HB.out⟩
def badL (cl : Bool) : List S28 → Bool
  | [] => false
  | p :: t => if valid p.f0 p.f1 cl = 0 then badL cl t else true
def sendF (cl : Bool) (ls : List (List S28)) (l : List S28) : Int × List (List S28) := if badL cl l = true then (1, ls) else if ls.length = 64 then (6, ls) else (0, ls ++ [l])
theorem badL_step (cl : Bool) (l : List S28) (k : Nat) (h : k < l.length) (h0 : valid (rd_T28 l (k : Int)).f0 (rd_T28 l (k : Int)).f1 cl = 0) : badL cl (l.drop k) = badL cl (l.drop (k + 1)) := by
  have e : rd_T28 l (k : Int) = l[k] := by simp [rd_T28, h]
  rw [List.drop_eq_getElem_cons h]
  rw [e] at h0
  show (if _ then _ else _) = _
  rw [if_pos h0]
theorem badL_stop (cl : Bool) (l : List S28) (k : Nat) (h : k < l.length) (h0 : valid (rd_T28 l (k : Int)).f0 (rd_T28 l (k : Int)).f1 cl ≠ 0) : badL cl (l.drop k) = true := by
  have e : rd_T28 l (k : Int) = l[k] := by simp [rd_T28, h]
  rw [List.drop_eq_getElem_cons h]
  rw [e] at h0
  show (if _ then _ else _) = _
  rw [if_neg h0]
theorem send_calls (base g : Nat) (F : Nat → Prop) (cl : Bool) (s : St) (ls : List (List S28)) (A : Option Addr) (c : Nat) (l : List S28) (w : World) (hI : IsB base w g F cl s ls) (hr : Kd.C k28 w A l.length l) (hc : l.length ≤ c) (hsz : l.length * 16 ≤ 140737488355328) :
    Calls Tryd.prog 32 #[.pointer (some ⟨g, 0, none⟩), .slice A l.length c] w fun e w' => e = .returned (.int .i64 (sendF cl ls l).1) ∧ ∃ F', IsB base w' g F' cl s (sendF cl ls l).2 ∧ (∀ k, F' k → F k ∨ w.heap.size ≤ k) ∧ Kept w w' F ∧ Below base w w' := by
  obtain ⟨vv, hI⟩ := hI
  obtain ⟨VA, vc, rfl, hvc⟩ := Kd.Q_slice hI.row
  obtain ⟨vv, hvv⟩ : ∃ vv, Value.slice VA ls.length vc = vv := ⟨_, rfl⟩
  have HVV := Aside0.mk hvv
  rw [hvv] at hI
  clear hvv
  have HI := Aside0.mk hI
  have HR := Aside0.mk hr
  have HC := Aside0.mk hc
  have HSZ := Aside0.mk hsz
  have hl63 : l.length ≤ 9223372036854775807 := hr.2.1
  have hfew := hI.few
  have HB := Aside0.mk (Below.refl w.heap.size w)
  clear hI hr hc hsz
  go_enter Tryd.func32, Tryd.ntmps32
  go_wp2_with fail
  go_loopw [9] (fun i w' => ∃ (k : Nat), k ≤ l.length ∧ i = .int .i64 k ∧ Aside0 (badL cl (l.drop k) = badL cl l) ∧ Aside0 (Below w.heap.size w w')) (fun i _ => l.length - (intOf i).toNat)
  case atStart => exact ⟨0, Nat.zero_le _, rfl, ⟨rfl⟩, HB⟩
  case round =>
    obtain ⟨k, hk, rfl, HA, HW⟩ := hrel
    have HIr := Aside0.mk (HI.out.below HW.out)
    by_cases hlt : k < l.length
    · have p0 : (0 : Int) ≤ k := by omega
      have q0 : (k : Int) < (l.length : Int) := by omega
      obtain ⟨ad, e0, y0, y1⟩ := at_T28 HR.out k p0 q0
      cases e0
      replace y0 := (HW.out.cell (World.block_lt_of_cell? w _ y0)).trans y0
      replace y1 := (HW.out.cell (World.block_lt_of_cell? w _ y1)).trans y1
      obtain ⟨id, hid⟩ : ∃ K, (rd_T28 l (k : Int)).f0 = K := ⟨_, rfl⟩
      obtain ⟨x, hx⟩ : ∃ K, (rd_T28 l (k : Int)).f1 = K := ⟨_, rfl⟩
      have HI0 := Aside0.mk hid
      have HX := Aside0.mk hx
      simp only [Int.toNat_natCast] at y0 y1
      rw [hid] at y0
      rw [hx] at y1
      clear hid hx
      obtain ⟨kv, hkv⟩ := valid_f id x cl
      have HKV := Aside0.mk hkv
      clear hkv
      have sg := blk_lt HIr.out.blk
      go_upto_region 4 with fail
      have c0 : (wr.alloc (.cells #[.int .i64 id, .int .i64 x] 28)).cell? ⟨wr.heap.size, 0, none⟩ = some (.int .i64 id) := blk_cell (blk_new wr (.cells #[.int .i64 id, .int .i64 x] 28)) 0
      have c1 : (wr.alloc (.cells #[.int .i64 id, .int .i64 x] 28)).cell? ⟨wr.heap.size, 1, none⟩ = some (.int .i64 x) := blk_cell (blk_new wr (.cells #[.int .i64 id, .int .i64 x] 28)) 1
      have c2 : (wr.alloc (.cells #[.int .i64 id, .int .i64 x] 28)).cell? ⟨g, 0, none⟩ = some (.bool cl) := blk_cell (blk_alloc HIr.out.blk (.cells #[.int .i64 id, .int .i64 x] 28)) 0
      refine start_ (n := 7) (S := fun w' => w'.cell? ⟨wr.heap.size, 0, none⟩ = some (.int .i64 id) ∧ w'.cell? ⟨wr.heap.size, 1, none⟩ = some (.int .i64 x) ∧ w'.cell? ⟨g, 0, none⟩ = some (.bool cl)) (ds := []) #[false, false, false, false, false, false, false] (by kernel_rfl) rfl rfl ⟨c0, c1, c2⟩ (fun hHeld => ?_)
      refine pure_ (i := 1) (N := some 14) (v := ?_) (a' := ?_) #[false, true, false, false, false, false, false] rfl rfl (by kernel_rfl) (fun _ _ _ h => h) (Or.inl ⟨by rfl, ?_⟩) ?_ ?_
      rotate_left
      · intro w'
        go_simp
        with_reducible rfl
      rotate_left
      · simp only [Act.put, List.setIfInBounds_toArray, List.set_cons_zero, List.set_cons_succ, i64_w, i32_w]
        rfl
      refine pure_ (i := 2) (N := some 15) (v := ?_) (a' := ?_) #[false, true, true, false, false, false, false] rfl rfl (by kernel_rfl) (fun _ _ _ h => h) (Or.inl ⟨by rfl, ?_⟩) ?_ ?_
      rotate_left
      · intro w'
        go_simp
        with_reducible rfl
      rotate_left
      · simp only [Act.put, List.setIfInBounds_toArray, List.set_cons_zero, List.set_cons_succ, i64_w, i32_w]
        rfl
      refine pure_ (i := 3) (N := some 16) (v := ?_) (a' := ?_) #[false, true, true, true, false, false, false] rfl rfl (by kernel_rfl) (fun _ _ _ h => h) (Or.inl ⟨by rfl, ?_⟩) ?_ ?_
      rotate_left
      · intro w'
        go_simp
        with_reducible rfl
      rotate_left
      · simp only [Act.put, List.setIfInBounds_toArray, List.set_cons_zero, List.set_cons_succ, i64_w, i32_w]
        rfl
      refine take_ (i := 0) (N := some 13) (v := ?_) (a' := ?_) #[true, true, true, true, false, false, false] rfl rfl (by kernel_rfl) (fun _ _ _ h => h) (Or.inl ⟨by rfl, ?_⟩) hHeld ?_ ?_
      rotate_left
      · rintro w' ⟨s0, s1, s2⟩
        go_simp
        with_reducible rfl
      rotate_left
      · simp only [Act.put, List.setIfInBounds_toArray, List.set_cons_zero, List.set_cons_succ, i64_w, i32_w]
        rfl
      refine take_ (i := 4) (N := some 17) (v := ?_) (a' := ?_) #[true, true, true, true, true, false, false] rfl rfl (by kernel_rfl) (fun _ _ _ h => h) (Or.inl ⟨by rfl, ?_⟩) hHeld ?_ ?_
      rotate_left
      · rintro w' ⟨s0, s1, s2⟩
        go_simp
        with_reducible rfl
      rotate_left
      · simp only [Act.put, List.setIfInBounds_toArray, List.set_cons_zero, List.set_cons_succ, i64_w, i32_w]
        rfl
      refine one_ (i := 5) (N := some 18) #[true, true, true, true, true, true, false] rfl rfl (by kernel_rfl) (by decide) (fun K hK => ?_)
      refine goes_ Tryd.func9 (by kernel_rfl) rfl #[.agg #[.int .i64 id, .int .i64 x], .bool cl] (by rfl) rfl rfl (by simp only [List.map_toArray, List.map_cons, List.map_nil]; rfl) ?_
      with_reducible refine (setting_Valid.calls kv id x cl (valid id x cl) _ HKV.out).mono ?_
      rintro e w4 ⟨rfl, hb⟩
      refine ⟨_, rfl, ?_⟩
      have HB4 := Aside0.mk hb
      clear hb
      refine hK.out _ _ ⟨(HB4.out.cell (World.block_lt_of_cell? _ _ hHeld.1)).trans hHeld.1, (HB4.out.cell (World.block_lt_of_cell? _ _ hHeld.2.1)).trans hHeld.2.1, (HB4.out.cell (World.block_lt_of_cell? _ _ hHeld.2.2)).trans hHeld.2.2⟩ (fun hHeld => ?_)
      clear hK K
      refine norm_ (a' := ?_) ?_ ?_
      rotate_left
      · show Act.put _ (some 18) _ = _
        simp only [Act.put, List.setIfInBounds_toArray, List.set_cons_zero, List.set_cons_succ, i64_w, i32_w]
        rfl
      refine pure_ (i := 6) (N := some 19) (v := ?_) (a' := ?_) #[true, true, true, true, true, true, true] rfl rfl (by kernel_rfl) (fun _ _ _ h => h) (Or.inl ⟨by rfl, ?_⟩) ?_ ?_
      rotate_left
      · intro w'
        go_simp
        with_reducible rfl
      rotate_left
      · simp only [Act.put, List.setIfInBounds_toArray, List.set_cons_zero, List.set_cons_succ, i64_w, i32_w]
        rfl
      refine done_ (by kernel_rfl) ?_

      have HW4 := Aside0.mk (below_then (below_drew (below_alloc HW.out (.cells #[.int .i64 id, .int .i64 x] 28))) (by have := HW.out.size; simp; omega) HB4.out)
      by_cases hz : valid id x cl = 0
      · have hz' : (valid id x cl != 0) = false := by simp [hz]
        have HZ := Aside0.mk hz
        clear hz
        go_wp2_with fail
        go_roundw
        case rel =>
          refine ⟨k + 1, by omega, by go_num, ⟨?_⟩, HW4⟩
          rw [← HA.out, badL_step cl l k hlt (by rw [HI0.out, HX.out]; exact HZ.out)]
        case measure => simp [intOf]; omega
      · have hz' : (valid id x cl != 0) = true := by simp [hz]
        have HZ := Aside0.mk hz
        clear hz
        have hres : sendF cl ls l = (1, ls) := by
          unfold sendF
          rw [← HA.out, badL_stop cl l k hlt (by rw [HI0.out, HX.out]; exact HZ.out), if_pos rfl]
        have HRES := Aside0.mk hres
        clear hres
        go_wp2_with fail
        go_ret
        exact ⟨by rw [HRES.out]; rfl, F, by rw [HRES.out]; exact ⟨vv, HI.out.below HW4.out⟩, fun _ h => .inl h, Kept.of_below HW4.out _, below_lo HW4.out (by have := HI.out.bound g HI.out.mem; omega)⟩
    · have hlt2 : decide ((k : Int) < (l.length : Int)) = false := decide_eq_false (by omega)
      have hok : badL cl l = false := by rw [← HA.out, show k = l.length by omega, List.drop_length]; rfl
      have HOK := Aside0.mk hok
      clear hok
      have z7 : wr.cell? ⟨g, 7, none⟩ = some (.slice VA ls.length vc) := by rw [HVV.out]; exact blk_cell HIr.out.blk 7
      by_cases h64 : ls.length = 64
      · have h64' : ((ls.length : Int) == 64) = true := by simp; omega
        have hres : sendF cl ls l = (6, ls) := by
          unfold sendF
          rw [HOK.out, if_neg (by simp), if_pos h64]
        have HRES := Aside0.mk hres
        clear hres h64
        go_wp2_with fail
        go_ret
        exact ⟨by rw [HRES.out]; rfl, F, by rw [HRES.out]; exact ⟨vv, HIr.out⟩, fun _ h => .inl h, Kept.of_below HW.out _, below_lo HW.out (by have := HI.out.bound g HI.out.mem; omega)⟩
      · have h64' : ((ls.length : Int) == 64) = false := by simp; omega
        have hres : sendF cl ls l = (0, ls ++ [l]) := by
          unfold sendF
          rw [HOK.out, if_neg (by simp), if_neg h64]
        have HRES := Aside0.mk hres
        have H64 := Aside0.mk h64
        clear hres h64
        have BW : Aside0 (base ≤ wr.heap.size) := ⟨by have := HI.out.bound g HI.out.mem; have := HW.out.size; omega⟩
        have CR := Aside0.mk (Kd.C_below HR.out HW.out)
        go_upto_region 9 with fail
        have c0 : wr.cell? ⟨g, 7, none⟩ = some vv := blk_cell HIr.out.blk 7
        have c1 : wr.frozen? ⟨g, 7, none⟩ = false := blk_frozen HIr.out.blk 7
        clear z7
        refine start_ (n := 12) (S := fun w' => w'.cell? ⟨g, 7, none⟩ = some vv ∧ w'.frozen? ⟨g, 7, none⟩ = false) (ds := [11]) #[false, false, false, false, false, false, false, false, false, false, false, false] (by kernel_rfl) rfl rfl ⟨c0, c1⟩ (fun hHeld => ?_)
        refine pure_ (i := 0) (N := some 27) (v := ?_) (a' := ?_) #[true, false, false, false, false, false, false, false, false, false, false, false] rfl rfl (by kernel_rfl) (fun _ _ _ h => h) (Or.inl ⟨by rfl, ?_⟩) ?_ ?_
        rotate_left
        · intro w'
          go_simp
          with_reducible rfl
        rotate_left
        · simp only [Act.put, List.setIfInBounds_toArray, List.set_cons_zero, List.set_cons_succ, i64_w, i32_w]
          rfl
        refine pure_ (i := 1) (N := some 28) (v := ?_) (a' := ?_) #[true, true, false, false, false, false, false, false, false, false, false, false] rfl rfl (by kernel_rfl) (fun _ _ _ h => h) (Or.inl ⟨by rfl, ?_⟩) ?_ ?_
        rotate_left
        · intro w'
          go_simp
          with_reducible rfl
        rotate_left
        · simp only [Act.put, List.setIfInBounds_toArray, List.set_cons_zero, List.set_cons_succ, i64_w, i32_w]
          rfl
        refine pure_ (i := 2) (N := some 29) (v := ?_) (a' := ?_) #[true, true, true, false, false, false, false, false, false, false, false, false] rfl rfl (by kernel_rfl) (fun _ _ _ h => h) (Or.inl ⟨by rfl, ?_⟩) ?_ ?_
        rotate_left
        · intro w'
          go_simp
          with_reducible rfl
        rotate_left
        · simp only [Act.put, List.setIfInBounds_toArray, List.set_cons_zero, List.set_cons_succ, i64_w, i32_w]
          rfl
        refine pure_ (i := 3) (N := some 30) (v := ?_) (a' := ?_) #[true, true, true, true, false, false, false, false, false, false, false, false] rfl rfl (by kernel_rfl) (fun _ _ _ h => h) (Or.inl ⟨by rfl, ?_⟩) ?_ ?_
        rotate_left
        · intro w'
          go_simp
          with_reducible rfl
        rotate_left
        · simp only [Act.put, List.setIfInBounds_toArray, List.set_cons_zero, List.set_cons_succ, i64_w, i32_w]
          rfl
        refine pure_ (i := 5) (N := some 32) (v := ?_) (a' := ?_) #[true, true, true, true, false, true, false, false, false, false, false, false] rfl rfl (by kernel_rfl) (fun _ _ _ h => h) (Or.inl ⟨by rfl, ?_⟩) ?_ ?_
        rotate_left
        · intro w'
          go_simp
          with_reducible rfl
        rotate_left
        · simp only [Act.put, List.setIfInBounds_toArray, List.set_cons_zero, List.set_cons_succ, i64_w, i32_w]
          rfl
        refine take_ (i := 4) (N := some 31) (v := ?_) (a' := ?_) #[true, true, true, true, true, true, false, false, false, false, false, false] rfl rfl (by kernel_rfl) (fun _ _ _ h => h) (Or.inl ⟨by rfl, ?_⟩) hHeld ?_ ?_
        rotate_left
        · rintro w' ⟨s0, s1⟩
          go_simp
          with_reducible rfl
        rotate_left
        · simp only [Act.put, List.setIfInBounds_toArray, List.set_cons_zero, List.set_cons_succ, i64_w, i32_w]
          rfl
        refine one_ (i := 6) (N := some 33) #[true, true, true, true, true, true, true, false, false, false, false, false] rfl rfl (by kernel_rfl) (by decide) (fun K hK => ?_)
        refine Kd.R_append_rows_step k28 (w0 := wr) wr.heap.size (by rfl) (.const (.slice none 0 0)) (.tmp 32) 24 28 (.agg #[.int .i64 0, .int .i64 0]) 16 rfl Tryd.underlying24 info28 rfl (by decide) (by omega) (.slice none 0 0) [] l A l.length c (fun k => wr.heap.size ≤ k) (fun _ => False) rfl rfl ?aO ?aR (fun _ _ h => h) (fun _ h => h.elim) ?aF ?aB ?aS ?aL ?_
        (case aO => exact Kd.R_nil _ _ _ _ _)
        (case aR => exact CR.out)
        (case aF => exact fun _ hk => hk)
        (case aB => exact below_drew (Below.refl _ _))
        (case aS => exact Nat.le_refl _)
        (case aL => have := HSZ.out; simp; omega)
        intro v1 w3 ho hb hg hat
        rw [List.nil_append] at ho
        obtain ⟨A1, C1, rfl⟩ := Kd.R_slice ho
        have HO1 := Aside0.mk ho
        have HB1 := Aside0.mk hb
        clear ho hb hg hat
        refine hK.out _ _ ⟨(HB1.out.cell (World.block_lt_of_cell? _ _ hHeld.1)).trans hHeld.1, (HB1.out.frozen (p := ⟨g, 7, none⟩) (World.block_lt_of_cell? _ _ hHeld.1)).trans hHeld.2⟩ (fun hHeld => ?_)
        clear hK K
        refine norm_ (a' := ?_) ?_ ?_
        rotate_left
        · show Act.put _ (some 33) _ = _
          simp only [Act.put, List.setIfInBounds_toArray, List.set_cons_zero, List.set_cons_succ, i64_w, i32_w]
          rfl
        refine one_ (i := 7) (N := some 34) #[true, true, true, true, true, true, true, true, false, false, false, false] rfl rfl (by kernel_rfl) (by decide) (fun K hK => ?_)
        refine value_ (w1 := ?_) (v := ?_) (by rfl) rfl ?_ ?_
        rotate_left 2
        · go_simp
          constructor
          · rfl
          · rfl
        refine hK.out _ _ ⟨((below_alloc (Below.refl w3.heap.size w3) _).cell (World.block_lt_of_cell? _ _ hHeld.1)).trans hHeld.1, ((below_alloc (Below.refl w3.heap.size w3) _).frozen (p := ⟨g, 7, none⟩) (World.block_lt_of_cell? _ _ hHeld.1)).trans hHeld.2⟩ (fun hHeld => ?_)
        clear hK K
        refine norm_ (a' := ?_) ?_ ?_
        rotate_left
        · show Act.put _ (some 34) _ = _
          simp only [Act.put, List.setIfInBounds_toArray, List.set_cons_zero, List.set_cons_succ, i64_w, i32_w]
          rfl
        refine one_ (i := 8) (N := some 35) #[true, true, true, true, true, true, true, true, true, false, false, false] rfl rfl (by kernel_rfl) (by decide) (fun K hK => ?_)
        refine Kd.Q_append_step (Kd.slice 28 k28) (w0 := wr) base (by rfl) (.tmp 31) (.tmp 34) 52 24 (.slice none 0 0) 24 rfl Tryd.underlying52 info24 rfl (by decide) (by omega) vv ls l [.slice A1 l.length C1] (fun k => (F k ∨ wr.heap.size ≤ k) ∧ k ≠ g) (fun k => wr.heap.size ≤ k) rfl rfl ?aP ?aK ?aF ?aO ?aB ?aS ?aL ?_
        (case aP => exact ⟨_, rfl, Kd.R_lower HO1.out BW.out⟩)
        (case aK => exact fun k hk => ⟨⟨.inr hk, fun e => by have := blk_lt HIr.out.blk; subst e; omega⟩, fun e => by have := Kd.Q_lt HIr.out.row k e.symm; omega⟩)
        (case aF => exact fun k hk => ⟨.inr (Nat.le_trans HB1.out.size hk), fun e => by have := blk_lt HIr.out.blk; have := HB1.out.size; subst e; omega⟩)
        (case aO => exact Kd.Q_mono (Kd.Q_below HIr.out.row HB1.out) (fun k h => ⟨.inl h.1, h.2⟩))
        (case aB => exact below_lo HB1.out BW.out)
        (case aS => exact Nat.le_trans BW.out HB1.out.size)
        (case aL => have := HIr.out.few; omega)
        intro v2 w5 ho hb hg hat
        obtain ⟨A2, C2, e2, _⟩ := Kd.Q_slice ho
        rw [List.length_append, List.length_singleton] at e2
        subst e2
        have HO2 := Aside0.mk ho
        have HB2 := Aside0.mk hb
        have HG2 := Aside0.mk hg
        have HG5 := Aside0.mk (blk_grown (blk_below HIr.out.blk HB1.out) hg (Kd.Q_away HIr.out.row (fun _ h => h.2)))
        clear ho hb hg hat
        refine hK.out _ _ ⟨blk_cell HG5.out 7, blk_frozen HG5.out 7⟩ (fun hHeld => ?_)
        clear hK K
        refine norm_ (a' := ?_) ?_ ?_
        rotate_left
        · show Act.put _ (some 35) _ = _
          simp only [Act.put, List.setIfInBounds_toArray, List.set_cons_zero, List.set_cons_succ, i64_w, i32_w]
          rfl
        refine pure_ (i := 9) (N := some 36) (v := ?_) (a' := ?_) #[true, true, true, true, true, true, true, true, true, true, false, false] rfl rfl (by kernel_rfl) (fun _ _ _ h => h) (Or.inl ⟨by rfl, ?_⟩) ?_ ?_
        rotate_left
        · intro w'
          go_simp
          with_reducible rfl
        rotate_left
        · simp only [Act.put, List.setIfInBounds_toArray, List.set_cons_zero, List.set_cons_succ, i64_w, i32_w]
          rfl
        refine pure_ (i := 10) (N := some 37) (v := ?_) (a' := ?_) #[true, true, true, true, true, true, true, true, true, true, true, false] rfl rfl (by kernel_rfl) (fun _ _ _ h => h) (Or.inl ⟨by rfl, ?_⟩) ?_ ?_
        rotate_left
        · intro w'
          go_simp
          with_reducible rfl
        rotate_left
        · simp only [Act.put, List.setIfInBounds_toArray, List.set_cons_zero, List.set_cons_succ, i64_w, i32_w]
          rfl
        refine last_ (i := 11) (N := none) #[true, true, true, true, true, true, true, true, true, true, true, true] rfl rfl (by kernel_rfl) (by decide) (fun K hK => ?_)
        refine skip_ (w1 := ?_) (by rfl) rfl ?_ ?_
        rotate_left
        · go_simp
          rfl
        refine hK.out _ _ ?_
        clear hK K
        refine done_ (by kernel_rfl) ?_

        have hkept := (Kept.of_grown HG2.out ((Kept.of_below HW.out F).below HB1.out) (fun k hk => .inl ((HIr.out.row.1 k hk).1))).setCell (p := ⟨g, 7, none⟩) (.inl HI.out.mem) (.slice A2 (ls.length + 1) C2)
        go_wp2_with fail
        go_ret
        refine ⟨by rw [HRES.out]; rfl, fun k => (F k ∨ wr.heap.size ≤ k) ∧ k < w5.heap.size, ?_, fun k hk => ?_, hkept, ?_⟩
        · rw [HRES.out]
          refine ⟨.slice A2 (ls.length + 1) C2, blk_set HG5.out 7 (.slice A2 (ls.length + 1) C2), ⟨.inl HI.out.mem, blk_lt HG5.out⟩, fun k hk => ⟨?_, by simpa using hk.2⟩, Kd.Q_far (p := ⟨g, 7, none⟩) (Kd.Q_mono (Kd.Q_bound HO2.out) (fun k hk => ⟨⟨hk.1.1, hk.2.2.1⟩, hk.1.2⟩)) (fun k hk => hk.2) _, by have := HI.out.few; have := H64.out; simp; omega⟩
          rcases hk.1 with h | h
          · exact (HI.out.bound k h).1
          · exact Nat.le_trans BW.out h
        · rcases hk.1 with h | h
          · exact .inl h
          · exact .inr (Nat.le_trans HW.out.size h)
        · exact (Below.trans (below_lo HW.out (by have := HI.out.bound g HI.out.mem; omega)) HB2.out).setCell (HI.out.bound g HI.out.mem).1 _
end Go.Proofs.YtcjphkgmcfpfeaaDoor.MS
