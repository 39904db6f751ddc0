/- A feed: its block, its small functions. The feed lies in a block of its own. -/
import Derived.Test.YtoffhlbdfhhhjaaDoorMFg4
namespace Go.Proofs.YtoffhlbdfhhhjaaDoor.Fr
open Go Go.RowKit Go.Proofs.YtoffhlbdfhhhjaaDoorW.PrintWords Go.Proofs.YtoffhlbdfhhhjaaDoorW.PrintLast Go.Proofs.YtoffhlbdfhhhjaaDoorW.PrintMore Go.Proofs.YtoffhlbdfhhhjaaDoor.QL
set_option linter.unusedSimpArgs false
set_option linter.unusedVariables false
set_option maxHeartbeats 40000000
set_option maxRecDepth 100000
/-- A feed. -/
structure Fd where
  most : Int
  wt : ByteArray
  pf : ByteArray
  code : Int
  st : Int
def Fd.cells (f : Fd) : Array Value := #[.int .i64 f.most, .string f.wt, .string f.pf, .int .i64 f.code, .int .i64 f.st]
/-- A feed lies in block g of w. -/
def FAt (w : World) (g : Nat) (f : Fd) : Prop := w.heap[g]? = some (.cells f.cells 108 (0, 0))
theorem FAt.c0 {w : World} {g : Nat} {f : Fd} (h : FAt w g f) : w.cell? ⟨g, 0, none⟩ = some (.int .i64 f.most) := blk_cell h 0
theorem FAt.c1 {w : World} {g : Nat} {f : Fd} (h : FAt w g f) : w.cell? ⟨g, 1, none⟩ = some (.string f.wt) := blk_cell h 1
theorem FAt.c2 {w : World} {g : Nat} {f : Fd} (h : FAt w g f) : w.cell? ⟨g, 2, none⟩ = some (.string f.pf) := blk_cell h 2
theorem FAt.c3 {w : World} {g : Nat} {f : Fd} (h : FAt w g f) : w.cell? ⟨g, 3, none⟩ = some (.int .i64 f.code) := blk_cell h 3
theorem FAt.c4 {w : World} {g : Nat} {f : Fd} (h : FAt w g f) : w.cell? ⟨g, 4, none⟩ = some (.int .i64 f.st) := blk_cell h 4
theorem FAt.fz {w : World} {g : Nat} {f : Fd} (h : FAt w g f) (i : Nat) : w.frozen? ⟨g, i, none⟩ = false := blk_frozen h i
theorem FAt.low {w w1 : World} {g : Nat} {f : Fd} (h : FAt w g f) (hb : Below w.heap.size w w1) : FAt w1 g f := blk_below h hb
theorem FAt.put0 {w : World} {g : Nat} {f : Fd} (h : FAt w g f) (x : Int) : FAt (w.setCell ⟨g, 0, none⟩ (.int .i64 x)) g { f with most := x } := by
  have hb := blk_set h 0 (.int .i64 x)
  simpa [FAt, Fd.cells] using hb
theorem FAt.put1 {w : World} {g : Nat} {f : Fd} (h : FAt w g f) (x : ByteArray) : FAt (w.setCell ⟨g, 1, none⟩ (.string x)) g { f with wt := x } := by
  have hb := blk_set h 1 (.string x)
  simpa [FAt, Fd.cells] using hb
theorem FAt.put2 {w : World} {g : Nat} {f : Fd} (h : FAt w g f) (x : ByteArray) : FAt (w.setCell ⟨g, 2, none⟩ (.string x)) g { f with pf := x } := by
  have hb := blk_set h 2 (.string x)
  simpa [FAt, Fd.cells] using hb
theorem FAt.put3 {w : World} {g : Nat} {f : Fd} (h : FAt w g f) (x : Int) : FAt (w.setCell ⟨g, 3, none⟩ (.int .i64 x)) g { f with code := x } := by
  have hb := blk_set h 3 (.int .i64 x)
  simpa [FAt, Fd.cells] using hb
theorem FAt.put4 {w : World} {g : Nat} {f : Fd} (h : FAt w g f) (x : Int) : FAt (w.setCell ⟨g, 4, none⟩ (.int .i64 x)) g { f with st := x } := by
  have hb := blk_set h 4 (.int .i64 x)
  simpa [FAt, Fd.cells] using hb
/-- Of the old blocks only g may have been written. -/
structure Chg (g : Nat) (w w' : World) : Prop where
  os : w'.os = w.os
  tape : w'.tape = w.tape
  output : w'.output = w.output
  size : w.heap.size ≤ w'.heap.size
  block : ∀ k, k < w.heap.size → k ≠ g → w'.heap[k]? = w.heap[k]?
theorem Chg.of {g : Nat} {w w' : World} (h : Below w.heap.size w w') : Chg g w w' := ⟨h.os, h.tape, h.output, h.size, fun k hk _ => h.block k hk⟩
theorem Chg.refl (g : Nat) (w : World) : Chg g w w := Chg.of (Below.refl _ _)
theorem Chg.trans {g : Nat} {w w1 w2 : World} (h : Chg g w w1) (k : Chg g w1 w2) : Chg g w w2 := ⟨k.os.trans h.os, k.tape.trans h.tape, k.output.trans h.output, Nat.le_trans h.size k.size, fun i hi hn => (k.block i (Nat.lt_of_lt_of_le hi h.size) hn).trans (h.block i hi hn)⟩
theorem Chg.set {g : Nat} (w : World) (i : Nat) (u : Value) : Chg g w (w.setCell ⟨g, i, none⟩ u) := ⟨rfl, rfl, rfl, by simp [World.setCell], fun k _ hn => Below.heap_setCell w ⟨g, i, none⟩ u k hn⟩
/-- What has been written from B on only, stays so. -/
theorem Chg.below {g B : Nat} {w0 w w' : World} (h : Chg g w w') (hb : Below B w0 w) (hg : B ≤ g) (hB : B ≤ w.heap.size) : Below B w0 w' := ⟨h.os.trans hb.os, h.tape.trans hb.tape, h.output.trans hb.output, Nat.le_trans hb.size h.size, fun k hk => (h.block k (by omega) (by omega)).trans (hb.block k hk)⟩
theorem Chg.blk {g k : Nat} {w w' : World} {o : Obj} (h : Chg g w w') (hk : w.heap[k]? = some o) (hn : k ≠ g) : w'.heap[k]? = some o := (h.block k (blk_lt hk) hn).trans hk
theorem Chg.fat {g k : Nat} {w w' : World} {f : Fd} (h : Chg g w w') (hk : FAt w k f) (hn : k ≠ g) : FAt w' k f := h.blk hk hn
/-- Behind a fault of the connection? -/
def brB (f : Fd) : Bool := f.code != 0 || f.st != 0
theorem broken_calls (g : Nat) (f : Fd) (x : Bool) (w : World) (h : FAt w g f) (hx : brB f = x) : Calls Tryd.prog 67 #[.pointer (some ⟨g, 0, none⟩)] w fun e w' => e = .returned (.bool x) ∧ Below w.heap.size w w' := by
  have z3 := h.c3
  have z4 := h.c4
  have HB := Aside0.mk (Below.refl w.heap.size w)
  unfold brB at hx
  subst hx
  clear h
  by_cases h3 : f.code = 0
  · rw [h3] at z3 ⊢
    by_cases h4 : f.st = 0
    · rw [h4] at z4 ⊢
      go_enter Tryd.func67, Tryd.ntmps67
      go_wp2_with fail
      go_ret
      exact ⟨rfl, HB.out⟩
    · have b4 : (f.st == 0) = false := beq_eq_false_iff_ne.mpr h4
      go_enter Tryd.func67, Tryd.ntmps67
      go_wp2_with fail
      go_ret
      exact ⟨by simp [*], HB.out⟩
  · have b3 : (f.code == 0) = false := beq_eq_false_iff_ne.mpr h3
    go_enter Tryd.func67, Tryd.ntmps67
    go_wp2_with fail
    go_ret
    exact ⟨by simp [*], HB.out⟩
theorem waiting_calls (g : Nat) (f : Fd) (w : World) (h : FAt w g f) : Calls Tryd.prog 35 #[.pointer (some ⟨g, 0, none⟩)] w fun e w' => e = .returned (.int .i64 (f.wt.size : Int)) ∧ Below w.heap.size w w' := by
  have z1 := h.c1
  have HB := Aside0.mk (Below.refl w.heap.size w)
  clear h
  go_enter Tryd.func35, Tryd.ntmps35
  go_wp2_with fail
  go_ret
  exact ⟨rfl, HB.out⟩
theorem setMost_calls (g : Nat) (f : Fd) (x : Int) (w : World) (h : FAt w g f) : Calls Tryd.prog 42 #[.pointer (some ⟨g, 0, none⟩), .int .i64 x] w fun e w' => e = .returned (.tuple #[]) ∧ FAt w' g { f with most := x } ∧ Chg g w w' := by
  have z0 := h.c0
  have f0 := h.fz 0
  have H := Aside0.mk h
  clear h
  go_enter Tryd.func42, Tryd.ntmps42
  go_wp2_with fail
  go_end0
  exact ⟨rfl, H.out.put0 x, Chg.set _ _ _⟩
/-- A chunk behind what is waiting. -/
def pushF (f : Fd) (s : ByteArray) : Fd := if brB f = true then f else { f with wt := f.wt ++ s }
theorem push_calls (g : Nat) (f : Fd) (s : ByteArray) (w : World) (h : FAt w g f) (hs : f.wt.size + s.size ≤ 9223372036854775807) : Calls Tryd.prog 32 #[.pointer (some ⟨g, 0, none⟩), .string s] w fun e w' => e = .returned (.tuple #[]) ∧ FAt w' g (pushF f s) ∧ Chg g w w' := by
  have H := Aside0.mk h
  have hs2 : (f.wt.size : Int) + (s.size : Int) ≤ 9223372036854775807 := by omega
  clear h
  obtain ⟨x, hx⟩ : ∃ x, brB f = x := ⟨_, rfl⟩
  have HX := Aside0.mk hx
  clear hx
  go_enter Tryd.func32, Tryd.ntmps32
  go_upto_if 6 with (go_at_call 67; refine (broken_calls g f x _ H.out HX.out).mono ?_; rintro e w3 ⟨rfl, hb⟩; have H3 := Aside0.mk (H.out.low hb); have L3 := Aside0.mk hb; clear hb)
  cases x
  · have z1 := H3.out.c1
    have f1 := H3.out.fz 1
    go_wp2_with fail
    go_end0
    refine ⟨rfl, ?_, (Chg.of L3.out).trans (Chg.set _ _ _)⟩
    unfold pushF
    rw [if_neg (by rw [HX.out]; decide)]
    exact H3.out.put1 _
  · go_wp2_with fail
    go_end0
    refine ⟨rfl, ?_, Chg.of L3.out⟩
    unfold pushF
    rw [if_pos HX.out]
    exact H3.out
/-- The connection's preface. -/
def prefaceB : ByteArray := ⟨#[80, 82, 73, 32, 42, 32, 72, 84, 84, 80, 47, 50, 46, 48, 13, 10, 13, 10, 83, 77, 13, 10, 13, 10]⟩
def newF (server : Bool) (most : Int) : Fd := ⟨most, ByteArray.empty, if server = true then prefaceB else ByteArray.empty, 0, 0⟩
theorem new_calls (server : Bool) (most : Int) (w : World) : Calls Tryd.prog 31 #[.bool server, .int .i64 most] w fun e w' => e = .returned (.pointer (some ⟨w.heap.size, 0, none⟩)) ∧ FAt w' w.heap.size (newF server most) ∧ Below w.heap.size w w' := by
  have HB := Aside0.mk (Below.refl w.heap.size w)
  go_enter Tryd.func31, Tryd.ntmps31
  go_upto_region 2 with fail
  obtain ⟨W1, hW⟩ : ∃ W, w.alloc (.cells #[.int .i64 most, .string ⟨#[]⟩, .string ⟨#[]⟩, .int .i64 0, .int .i64 0] 108) = W := ⟨_, rfl⟩
  obtain ⟨g, hg⟩ : ∃ g, w.heap.size = g := ⟨_, rfl⟩
  have X : Aside0 (FAt W1 g ⟨most, ByteArray.empty, ByteArray.empty, 0, 0⟩) := ⟨by rw [← hW, ← hg]; exact blk_new w _⟩
  have L : Aside0 (Below w.heap.size w W1) := ⟨by rw [← hW]; exact below_alloc HB.out _⟩
  have HG := Aside0.mk hg
  rw [hW, hg]
  clear hW hg
  cases server
  · go_wp2_with fail
    go_ret
    exact ⟨by rw [HG.out]; rfl, by rw [HG.out]; exact X.out, L.out⟩
  · have z2 := X.out.c2
    have f2 := X.out.fz 2
    go_wp2_with fail
    go_ret
    exact ⟨by rw [HG.out]; rfl, by rw [HG.out]; exact X.out.put2 _, (Chg.set (g := g) W1 2 (.string prefaceB)).below L.out (by rw [HG.out]; exact Nat.le_refl _) L.out.size⟩
theorem FAt.drew {w : World} {g : Nat} {f : Fd} (h : FAt w g f) : FAt w.drew g f := h
/-- The preface, as far as it goes: is it read? -/
def begunF (f : Fd) : Bool × Fd :=
  if ((f.wt.extract 0 (min f.pf.size f.wt.size)).toList == (f.pf.extract 0 (min f.pf.size f.wt.size)).toList) = false then (false, { f with code := 1, st := 0 })
  else if f.wt.size < f.pf.size then (false, f)
  else (true, { f with wt := f.wt.extract f.pf.size f.wt.size, pf := ByteArray.empty })
theorem ba_eq (a b : ByteArray) : a = b ↔ a.toList = b.toList := by
  rw [ByteArray.toList_eq, ByteArray.toList_eq]
  constructor
  · rintro rfl
    rfl
  · intro h
    apply ByteArray.ext
    exact Array.toList_inj.1 h
theorem begun_calls (g : Nat) (f : Fd) (w : World) (h : FAt w g f) (hs : f.wt.size ≤ 9223372036854775807) (hp : f.pf.size ≤ 9223372036854775807) : Calls Tryd.prog 69 #[.pointer (some ⟨g, 0, none⟩)] w fun e w' => e = .returned (.bool (begunF f).1) ∧ FAt w' g (begunF f).2 ∧ Chg g w w' := by
  have H := Aside0.mk h
  have HS := Aside0.mk hs
  have HP := Aside0.mk hp
  have z1 := h.drew.c1
  have z2 := h.drew.c2
  clear h hs hp
  obtain ⟨n, hn⟩ : ∃ n, min f.pf.size f.wt.size = n := ⟨_, rfl⟩
  have HN := Aside0.mk hn
  have hmin : min (f.pf.size : Int) (f.wt.size : Int) = (n : Int) := by omega
  have hn1 : (n : Int) ≤ (f.wt.size : Int) := by omega
  have hn2 : (n : Int) ≤ (f.pf.size : Int) := by omega
  have hn0 : (0 : Int) ≤ (n : Int) := by omega
  clear hn
  go_enter Tryd.func69, Tryd.ntmps69
  go_upto_region 1 with fail
  refine start_ (n := 12) (S := fun w' => w'.cell? ⟨g, 2, none⟩ = some (.string f.pf) ∧ w'.cell? ⟨g, 1, none⟩ = some (.string f.wt)) (ds := []) #[false, false, false, false, false, false, false, false, false, false, false, false] (by kernel_rfl) rfl rfl ⟨z2, z1⟩ (fun hHeld => ?_)
  refine pure_ (i := 0) (N := some 4) (v := ?_) (a' := ?_) #[true, false, false, false, false, false, false, false, false, false, false, false] rfl rfl (by kernel_rfl) (fun _ _ _ h => h) (Or.inl ⟨by rfl, ?_⟩) ?_ ?_
  rotate_left
  · intro w'
    go_simp
    with_reducible rfl
  rotate_left
  · simp only [Act.put, List.setIfInBounds_toArray, List.set_cons_zero, List.set_cons_succ, i64_w, i32_w]
    rfl
  refine pure_ (i := 1) (N := some 5) (v := ?_) (a' := ?_) #[true, true, false, false, false, false, false, false, false, false, false, false] rfl rfl (by kernel_rfl) (fun _ _ _ h => h) (Or.inl ⟨by rfl, ?_⟩) ?_ ?_
  rotate_left
  · intro w'
    go_simp
    with_reducible rfl
  rotate_left
  · simp only [Act.put, List.setIfInBounds_toArray, List.set_cons_zero, List.set_cons_succ, i64_w, i32_w]
    rfl
  refine pure_ (i := 2) (N := some 6) (v := ?_) (a' := ?_) #[true, true, true, false, false, false, false, false, false, false, false, false] rfl rfl (by kernel_rfl) (fun _ _ _ h => h) (Or.inl ⟨by rfl, ?_⟩) ?_ ?_
  rotate_left
  · intro w'
    go_simp
    with_reducible rfl
  rotate_left
  · simp only [Act.put, List.setIfInBounds_toArray, List.set_cons_zero, List.set_cons_succ, i64_w, i32_w]
    rfl
  refine pure_ (i := 5) (N := some 9) (v := ?_) (a' := ?_) #[true, true, true, false, false, true, false, false, false, false, false, false] rfl rfl (by kernel_rfl) (fun _ _ _ h => h) (Or.inl ⟨by rfl, ?_⟩) ?_ ?_
  rotate_left
  · intro w'
    go_simp
    with_reducible rfl
  rotate_left
  · simp only [Act.put, List.setIfInBounds_toArray, List.set_cons_zero, List.set_cons_succ, i64_w, i32_w]
    rfl
  refine pure_ (i := 6) (N := some 10) (v := ?_) (a' := ?_) #[true, true, true, false, false, true, true, false, false, false, false, false] rfl rfl (by kernel_rfl) (fun _ _ _ h => h) (Or.inl ⟨by rfl, ?_⟩) ?_ ?_
  rotate_left
  · intro w'
    go_simp
    with_reducible rfl
  rotate_left
  · simp only [Act.put, List.setIfInBounds_toArray, List.set_cons_zero, List.set_cons_succ, i64_w, i32_w]
    rfl
  refine pure_ (i := 7) (N := some 11) (v := ?_) (a' := ?_) #[true, true, true, false, false, true, true, true, false, false, false, false] rfl rfl (by kernel_rfl) (fun _ _ _ h => h) (Or.inl ⟨by rfl, ?_⟩) ?_ ?_
  rotate_left
  · intro w'
    go_simp
    with_reducible rfl
  rotate_left
  · simp only [Act.put, List.setIfInBounds_toArray, List.set_cons_zero, List.set_cons_succ, i64_w, i32_w]
    rfl
  refine take_ (i := 3) (N := some 7) (v := ?_) (a' := ?_) #[true, true, true, true, false, true, true, true, false, false, false, false] rfl rfl (by kernel_rfl) (fun _ _ _ h => h) (Or.inl ⟨by rfl, ?_⟩) hHeld ?_ ?_
  rotate_left
  · rintro w' ⟨s0, s1⟩
    go_simp
    with_reducible rfl
  rotate_left
  · simp only [Act.put, List.setIfInBounds_toArray, List.set_cons_zero, List.set_cons_succ, i64_w, i32_w]
    rfl
  refine pure_ (i := 4) (N := some 8) (v := ?_) (a' := ?_) #[true, true, true, true, true, true, true, true, false, false, false, false] rfl rfl (by kernel_rfl) (fun _ _ _ h => h) (Or.inl ⟨by rfl, ?_⟩) ?_ ?_
  rotate_left
  · intro w'
    go_simp
    with_reducible rfl
  rotate_left
  · simp only [Act.put, List.setIfInBounds_toArray, List.set_cons_zero, List.set_cons_succ, i64_w, i32_w]
    rfl
  refine take_ (i := 8) (N := some 12) (v := ?_) (a' := ?_) #[true, true, true, true, true, true, true, true, true, false, false, false] rfl rfl (by kernel_rfl) (fun _ _ _ h => h) (Or.inl ⟨by rfl, ?_⟩) hHeld ?_ ?_
  rotate_left
  · rintro w' ⟨s0, s1⟩
    go_simp
    with_reducible rfl
  rotate_left
  · simp only [Act.put, List.setIfInBounds_toArray, List.set_cons_zero, List.set_cons_succ, i64_w, i32_w]
    rfl
  refine pure_ (i := 9) (N := some 13) (v := ?_) (a' := ?_) #[true, true, true, true, true, true, true, true, true, true, false, false] rfl rfl (by kernel_rfl) (fun _ _ _ h => h) (Or.inl ⟨by rfl, ?_⟩) ?_ ?_
  rotate_left
  · intro w'
    go_simp
    with_reducible rfl
  rotate_left
  · simp only [Act.put, List.setIfInBounds_toArray, List.set_cons_zero, List.set_cons_succ, i64_w, i32_w]
    rfl
  refine pure_ (i := 10) (N := some 14) (v := ?_) (a' := ?_) #[true, true, true, true, true, true, true, true, true, true, true, false] rfl rfl (by kernel_rfl) (fun _ _ _ h => h) (Or.inl ⟨by rfl, ?_⟩) ?_ ?_
  rotate_left
  · intro w'
    go_simp
    with_reducible rfl
  rotate_left
  · simp only [Act.put, List.setIfInBounds_toArray, List.set_cons_zero, List.set_cons_succ, i64_w, i32_w]
    rfl
  refine pure_ (i := 11) (N := some 3) (v := ?_) (a' := ?_) #[true, true, true, true, true, true, true, true, true, true, true, true] rfl rfl (by kernel_rfl) (fun _ _ _ h => h) (Or.inl ⟨by rfl, ?_⟩) ?_ ?_
  rotate_left
  · intro w'
    go_simp
    with_reducible rfl
  rotate_left
  · simp only [Act.put, List.setIfInBounds_toArray, List.set_cons_zero, List.set_cons_succ, i64_w, i32_w]
    rfl
  refine done_ (by kernel_rfl) ?_
  go_upto_region 2 with fail
  clear z1 z2 hHeld
  have H1 : Aside0 (FAt w.drew g f) := ⟨H.out.drew⟩
  have z1 := H1.out.drew.c1
  have z2 := H1.out.drew.c2
  refine start_ (n := 13) (S := fun w' => w'.cell? ⟨g, 1, none⟩ = some (.string f.wt) ∧ w'.cell? ⟨g, 2, none⟩ = some (.string f.pf)) (ds := []) #[false, false, false, false, false, false, false, false, false, false, false, false, false] (by kernel_rfl) rfl rfl ⟨z1, z2⟩ (fun hHeld => ?_)
  refine pure_ (i := 0) (N := some 15) (v := ?_) (a' := ?_) #[true, false, false, false, false, false, false, false, false, false, false, false, false] rfl rfl (by kernel_rfl) (fun _ _ _ h => h) (Or.inl ⟨by rfl, ?_⟩) ?_ ?_
  rotate_left
  · intro w'
    go_simp
    with_reducible rfl
  rotate_left
  · simp only [Act.put, List.setIfInBounds_toArray, List.set_cons_zero, List.set_cons_succ, i64_w, i32_w]
    rfl
  refine pure_ (i := 1) (N := some 16) (v := ?_) (a' := ?_) #[true, true, false, false, false, false, false, false, false, false, false, false, false] rfl rfl (by kernel_rfl) (fun _ _ _ h => h) (Or.inl ⟨by rfl, ?_⟩) ?_ ?_
  rotate_left
  · intro w'
    go_simp
    with_reducible rfl
  rotate_left
  · simp only [Act.put, List.setIfInBounds_toArray, List.set_cons_zero, List.set_cons_succ, i64_w, i32_w]
    rfl
  refine pure_ (i := 2) (N := some 17) (v := ?_) (a' := ?_) #[true, true, true, false, false, false, false, false, false, false, false, false, false] rfl rfl (by kernel_rfl) (fun _ _ _ h => h) (Or.inl ⟨by rfl, ?_⟩) ?_ ?_
  rotate_left
  · intro w'
    go_simp
    with_reducible rfl
  rotate_left
  · simp only [Act.put, List.setIfInBounds_toArray, List.set_cons_zero, List.set_cons_succ, i64_w, i32_w]
    rfl
  refine pure_ (i := 4) (N := some 19) (v := ?_) (a' := ?_) #[true, true, true, false, true, false, false, false, false, false, false, false, false] rfl rfl (by kernel_rfl) (fun _ _ _ h => h) (Or.inl ⟨by rfl, ?_⟩) ?_ ?_
  rotate_left
  · intro w'
    go_simp
    with_reducible rfl
  rotate_left
  · simp only [Act.put, List.setIfInBounds_toArray, List.set_cons_zero, List.set_cons_succ, i64_w, i32_w]
    rfl
  refine pure_ (i := 6) (N := some 21) (v := ?_) (a' := ?_) #[true, true, true, false, true, false, true, false, false, false, false, false, false] rfl rfl (by kernel_rfl) (fun _ _ _ h => h) (Or.inl ⟨by rfl, ?_⟩) ?_ ?_
  rotate_left
  · intro w'
    go_simp
    with_reducible rfl
  rotate_left
  · simp only [Act.put, List.setIfInBounds_toArray, List.set_cons_zero, List.set_cons_succ, i64_w, i32_w]
    rfl
  refine pure_ (i := 7) (N := some 22) (v := ?_) (a' := ?_) #[true, true, true, false, true, false, true, true, false, false, false, false, false] rfl rfl (by kernel_rfl) (fun _ _ _ h => h) (Or.inl ⟨by rfl, ?_⟩) ?_ ?_
  rotate_left
  · intro w'
    go_simp
    with_reducible rfl
  rotate_left
  · simp only [Act.put, List.setIfInBounds_toArray, List.set_cons_zero, List.set_cons_succ, i64_w, i32_w]
    rfl
  refine pure_ (i := 8) (N := some 23) (v := ?_) (a' := ?_) #[true, true, true, false, true, false, true, true, true, false, false, false, false] rfl rfl (by kernel_rfl) (fun _ _ _ h => h) (Or.inl ⟨by rfl, ?_⟩) ?_ ?_
  rotate_left
  · intro w'
    go_simp
    with_reducible rfl
  rotate_left
  · simp only [Act.put, List.setIfInBounds_toArray, List.set_cons_zero, List.set_cons_succ, i64_w, i32_w]
    rfl
  refine pure_ (i := 10) (N := some 25) (v := ?_) (a' := ?_) #[true, true, true, false, true, false, true, true, true, false, true, false, false] rfl rfl (by kernel_rfl) (fun _ _ _ h => h) (Or.inl ⟨by rfl, ?_⟩) ?_ ?_
  rotate_left
  · intro w'
    go_simp
    with_reducible rfl
  rotate_left
  · simp only [Act.put, List.setIfInBounds_toArray, List.set_cons_zero, List.set_cons_succ, i64_w, i32_w]
    rfl
  refine take_ (i := 3) (N := some 18) (v := ?_) (a' := ?_) #[true, true, true, true, true, false, true, true, true, false, true, false, false] rfl rfl (by kernel_rfl) (fun _ _ _ h => h) (Or.inl ⟨by rfl, ?_⟩) hHeld ?_ ?_
  rotate_left
  · rintro w' ⟨s0, s1⟩
    go_simp
    with_reducible rfl
  rotate_left
  · simp only [Act.put, List.setIfInBounds_toArray, List.set_cons_zero, List.set_cons_succ, i64_w, i32_w]
    rfl
  refine pure_ (i := 5) (N := some 20) (v := ?_) (a' := ?_) #[true, true, true, true, true, true, true, true, true, false, true, false, false] rfl rfl (by kernel_rfl) (fun _ _ _ h => h) (Or.inl ⟨by rfl, ?_⟩) ?_ ?_
  rotate_left
  · intro w'
    go_simp
    with_reducible rfl
  rotate_left
  · simp only [Act.put, List.setIfInBounds_toArray, List.set_cons_zero, List.set_cons_succ, i64_w, i32_w]
    rfl
  refine take_ (i := 9) (N := some 24) (v := ?_) (a' := ?_) #[true, true, true, true, true, true, true, true, true, true, true, false, false] rfl rfl (by kernel_rfl) (fun _ _ _ h => h) (Or.inl ⟨by rfl, ?_⟩) hHeld ?_ ?_
  rotate_left
  · rintro w' ⟨s0, s1⟩
    go_simp
    with_reducible rfl
  rotate_left
  · simp only [Act.put, List.setIfInBounds_toArray, List.set_cons_zero, List.set_cons_succ, i64_w, i32_w]
    rfl
  refine pure_ (i := 11) (N := some 26) (v := ?_) (a' := ?_) #[true, true, true, true, true, true, true, true, true, true, true, true, false] rfl rfl (by kernel_rfl) (fun _ _ _ h => h) (Or.inl ⟨by rfl, ?_⟩) ?_ ?_
  rotate_left
  · intro w'
    go_simp
    with_reducible rfl
  rotate_left
  · simp only [Act.put, List.setIfInBounds_toArray, List.set_cons_zero, List.set_cons_succ, i64_w, i32_w]
    rfl
  refine pure_ (i := 12) (N := some 27) (v := ?_) (a' := ?_) #[true, true, true, true, true, true, true, true, true, true, true, true, true] rfl rfl (by kernel_rfl) (fun _ _ _ h => h) (Or.inl ⟨by rfl, ?_⟩) ?_ ?_
  rotate_left
  · intro w'
    go_simp
    with_reducible rfl
  rotate_left
  · simp only [Act.put, List.setIfInBounds_toArray, List.set_cons_zero, List.set_cons_succ, i64_w, i32_w]
    rfl
  refine done_ (by kernel_rfl) ?_
  clear hHeld z1 z2
  have H2 : Aside0 (FAt w.drew.drew g f) := ⟨H1.out.drew⟩
  have L2 : Aside0 (Chg g w w.drew.drew) := ⟨Chg.of (below_drew (below_drew (Below.refl _ _)))⟩
  obtain ⟨y, hy⟩ : ∃ y, ((f.wt.extract 0 n).toList == (f.pf.extract 0 n).toList) = y := ⟨_, rfl⟩
  go_upto_if 27 with fail
  rw [hy]
  have HY : Aside0 (((f.wt.extract 0 (min f.pf.size f.wt.size)).toList == (f.pf.extract 0 (min f.pf.size f.wt.size)).toList) = y) := ⟨by rw [HN.out]; exact hy⟩
  clear hy H1 H
  obtain ⟨W2, hW⟩ : ∃ W, w.drew.drew = W := ⟨_, rfl⟩
  rw [hW] at H2 L2 ⊢
  clear hW
  cases y
  · have HE : Aside0 (begunF f = (false, { f with code := 1, st := 0 })) := ⟨if_pos HY.out⟩
    have z3 := H2.out.c3
    have z4 := H2.out.c4
    have f3 := H2.out.fz 3
    have f4 := H2.out.fz 4
    go_wp2_with fail
    go_ret
    rw [HE.out]
    exact ⟨rfl, (H2.out.put3 1).put4 0, L2.out.trans ((Chg.set _ _ _).trans (Chg.set _ _ _))⟩
  · have z1 := H2.out.c1
    have z2 := H2.out.c2
    by_cases hlt : f.wt.size < f.pf.size
    · have HE : Aside0 (begunF f = (false, f)) := ⟨by unfold begunF; rw [if_neg (by rw [HY.out]; decide), if_pos hlt]⟩
      have d1 : decide ((n : Int) < (f.pf.size : Int)) = true := decide_eq_true (by have := HN.out; omega)
      have d2 : decide (n < f.pf.size) = true := decide_eq_true (by have := HN.out; omega)
      clear hlt
      go_wp2_with fail
      go_ret
      rw [HE.out]
      exact ⟨rfl, H2.out, L2.out⟩
    · have HE : Aside0 (begunF f = (true, { f with wt := f.wt.extract f.pf.size f.wt.size, pf := ByteArray.empty })) := ⟨by unfold begunF; rw [if_neg (by rw [HY.out]; decide), if_neg hlt]⟩
      have d1 : decide ((n : Int) < (f.pf.size : Int)) = false := decide_eq_false (by have := HN.out; omega)
      have d2 : decide (n < f.pf.size) = false := decide_eq_false (by have := HN.out; omega)
      have HNP : Aside0 (n = f.pf.size) := ⟨by have := HN.out; omega⟩
      have f1 := H2.out.fz 1
      have f2 := H2.out.fz 2
      clear hlt
      go_wp2_with fail
      go_ret
      rw [HE.out, ← HNP.out]
      exact ⟨rfl, (H2.out.put1 _).put2 _, L2.out.trans ((Chg.set _ _ _).trans (Chg.set _ _ _))⟩
end Go.Proofs.YtoffhlbdfhhhjaaDoor.Fr
