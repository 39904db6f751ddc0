/- A feed's Next: what it defers. The feed lies in a block of its own. -/
import Derived.Defers
import Derived.Test.YtoffhlbdfhhhjaaDoorMFdA
namespace Go.Proofs.YtoffhlbdfhhhjaaDoor.Fr
open Go Go.RowKit Go.Proofs.YtoffhlbdfhhhjaaDoorW.PrintWords Go.Proofs.YtoffhlbdfhhhjaaDoorW.PrintLast Go.Proofs.YtoffhlbdfhhhjaaDoorW.PrintMore Go.Proofs.YtoffhlbdfhhhjaaDoor.QL
set_option linter.unusedSimpArgs false
set_option linter.unusedVariables false
set_option maxHeartbeats 40000000
set_option maxRecDepth 100000
theorem GL.chg {g : Nat} {w w1 : World} (h : GL w) (hg : g ≠ 0) (hb : Chg g w w1) : GL w1 := fun i n hi => (cell_same (hb.block 0 h.lt (fun e => hg e.symm)) i).trans (h i n hi)
/-- What Next works on: the feed in g, the variables' blocks, w the world that it was called in. -/
structure NI (w W : World) (g g1 g2 g3 g4 : Nat) (f : Fd) (x : Fr) (A : Option Addr) (c : Nat) (ok : Bool) (code st : Int) : Prop where
  fd : FAt W g f
  b1 : W.heap[g1]? = some (.cells #[.pointer (some ⟨g, 0, none⟩)] 50 (0, 0))
  b2 : At W g2 x A c
  b3 : W.heap[g3]? = some (.cells #[.bool ok] 4 (0, 0))
  b4 : W.heap[g4]? = some (.cells #[.int .i64 code, .int .i64 st] 35 (0, 0))
  chg : Chg g w W
  gw : g < w.heap.size
  ne : w.heap.size ≤ g1 ∧ g1 < g2 ∧ g2 < g3 ∧ g3 < g4
theorem NI.below {w W W1 : World} {g g1 g2 g3 g4 : Nat} {f : Fd} {x : Fr} {A : Option Addr} {c : Nat} {ok : Bool} {code st : Int} (r : NI w W g g1 g2 g3 g4 f x A c ok code st) (hb : Below W.heap.size W W1) : NI w W1 g g1 g2 g3 g4 f x A c ok code st :=
  ⟨r.fd.low hb, blk_below r.b1 hb, r.b2.low hb, blk_below r.b3 hb, blk_below r.b4 hb, r.chg.trans (Chg.of hb), r.gw, r.ne⟩
theorem NI.feed {w W W1 : World} {g g1 g2 g3 g4 : Nat} {f f' : Fd} {x : Fr} {A : Option Addr} {c : Nat} {ok : Bool} {code st : Int} (r : NI w W g g1 g2 g3 g4 f x A c ok code st) (h : FAt W1 g f') (hb : Chg g W W1) : NI w W1 g g1 g2 g3 g4 f' x A c ok code st := by
  have hn := r.ne
  have hw := r.gw
  exact ⟨h, hb.blk r.b1 (by omega), hb.blk r.b2 (by omega), hb.blk r.b3 (by omega), hb.blk r.b4 (by omega), r.chg.trans hb, r.gw, r.ne⟩
theorem Chg.blkset {g k : Nat} {w W W1 : World} (h : Chg g w W) (hk : w.heap.size ≤ k) (ho : ∀ i : Nat, i ≠ k → W1.heap[i]? = W.heap[i]?) (hb : Below w.heap.size W W1) : Chg g w W1 :=
  ⟨hb.os.trans h.os, hb.tape.trans h.tape, hb.output.trans h.output, Nat.le_trans h.size hb.size, fun i hi hn => (ho i (by omega)).trans (h.block i hi hn)⟩
theorem NI.row2 {w W W1 : World} {g g1 g2 g3 g4 : Nat} {f : Fd} {x x' : Fr} {A A' : Option Addr} {c c' : Nat} {ok : Bool} {code st : Int} (r : NI w W g g1 g2 g3 g4 f x A c ok code st) (h : W1.heap[g2]? = some (.cells (x'.cells A' c') 24 (0, 0))) (ho : ∀ k : Nat, k ≠ g2 → W1.heap[k]? = W.heap[k]?) (hb : ∀ B w, Below B w W → B ≤ g2 → Below B w W1) : NI w W1 g g1 g2 g3 g4 f x' A' c' ok code st := by
  have hn := r.ne
  have hw := r.gw
  exact ⟨(ho g (by omega)).trans r.fd, (ho g1 (by omega)).trans r.b1, h, (ho g3 (by omega)).trans r.b3, (ho g4 (by omega)).trans r.b4, r.chg.blkset (k := g2) (by omega) ho (hb _ _ (Below.refl _ _) (by omega)), r.gw, r.ne⟩
theorem NI.row4 {w W W1 : World} {g g1 g2 g3 g4 : Nat} {f : Fd} {x : Fr} {A : Option Addr} {c : Nat} {ok : Bool} {code st code' st' : Int} (r : NI w W g g1 g2 g3 g4 f x A c ok code st) (h : W1.heap[g4]? = some (.cells #[.int .i64 code', .int .i64 st'] 35 (0, 0))) (ho : ∀ k : Nat, k ≠ g4 → W1.heap[k]? = W.heap[k]?) (hb : ∀ B w, Below B w W → B ≤ g4 → Below B w W1) : NI w W1 g g1 g2 g3 g4 f x A c ok code' st' := by
  have hn := r.ne
  have hw := r.gw
  exact ⟨(ho g (by omega)).trans r.fd, (ho g1 (by omega)).trans r.b1, (ho g2 (by omega)).trans r.b2, (ho g3 (by omega)).trans r.b3, h, r.chg.blkset (k := g4) (by omega) ho (hb _ _ (Below.refl _ _) (by omega)), r.gw, r.ne⟩
theorem NI.put3 {w W : World} {g g1 g2 g3 g4 : Nat} {f : Fd} {x : Fr} {A : Option Addr} {c : Nat} {ok : Bool} {code st : Int} (r : NI w W g g1 g2 g3 g4 f x A c ok code st) (y : Bool) : NI w (W.setCell ⟨g3, 0, none⟩ (.bool y)) g g1 g2 g3 g4 f x A c y code st := by
  have hn := r.ne
  have hw := r.gw
  have hc : Chg g w (W.setCell ⟨g3, 0, none⟩ (.bool y)) := r.chg.blkset (k := g3) (by omega) (fun i hi => Below.heap_setCell W ⟨g3, 0, none⟩ (.bool y) i hi) ((Below.refl _ _).setCell (p := ⟨g3, 0, none⟩) (show w.heap.size ≤ g3 by omega) _)
  exact ⟨blk_far r.fd (show g ≠ g3 by omega) _, blk_far r.b1 (show g1 ≠ g3 by omega) _, blk_far r.b2 (show g2 ≠ g3 by omega) _, blk_put r.b3 0 (.bool y) rfl, blk_far r.b4 (show g4 ≠ g3 by omega) _, hc, r.gw, r.ne⟩
/-- What the deferred function leaves. -/
def endF (f : Fd) : Fd := if brB f = true then { f with wt := ByteArray.empty } else f
theorem close_calls (w W : World) (g g1 g2 g3 g4 : Nat) (f : Fd) (x : Fr) (A : Option Addr) (c : Nat) (ok : Bool) (code st : Int) (h : NI w W g g1 g2 g3 g4 f x A c ok code st) :
    CallsD Tryd.prog 68 #[.pointer (some ⟨g1, 0, none⟩), .pointer (some ⟨g2, 0, none⟩), .pointer (some ⟨g3, 0, none⟩), .pointer (some ⟨g4, 0, none⟩)] .returning W fun e u' w' => u' = .returning ∧ (e = .returned (.tuple #[]) ∧
      ((brB f = false ∧ NI w w' g g1 g2 g3 g4 f x A c ok code st ∧ Below W.heap.size W w') ∨ (brB f = true ∧ NI w w' g g1 g2 g3 g4 { f with wt := ByteArray.empty } Fr.zero none 0 false f.code f.st))) := by
  have I := Aside0.mk h
  have z1 := blk_cell h.b1 0
  clear h
  obtain ⟨y, hy⟩ : ∃ y, brB f = y := ⟨_, rfl⟩
  have HY := Aside0.mk hy
  clear hy
  go_enter_d Tryd.func68, Tryd.ntmps68
  go_upto_if 5 with (go_at_call 67; refine (broken_calls g f y _ I.out.fd HY.out).mono ?_; rintro e w3 ⟨rfl, hb⟩; have I3 := Aside0.mk (I.out.below hb); have L3 := Aside0.mk hb; clear hb)
  clear z1 I
  cases y
  · go_wp2_with fail
    go_end0
    exact ⟨rfl, .inl ⟨HY.out, I3.out, L3.out⟩⟩
  · have z1 := blk_cell I3.out.b1 0
    have c1 := I3.out.fd.c1
    have f1 := I3.out.fd.fz 1
    go_upto_region 2 with fail
    clear z1 c1 f1
    obtain ⟨W4, hW⟩ : ∃ W, w3.setCell ⟨g, 1, none⟩ (.string ⟨#[]⟩) = W := ⟨_, rfl⟩
    have I4 : Aside0 (NI w W4 g g1 g2 g3 g4 { f with wt := ByteArray.empty } x A c ok code st) := ⟨by rw [← hW]; exact I3.out.feed (I3.out.fd.put1 _) (Chg.set _ _ _)⟩
    rw [hW]
    clear hW I3
    have z1 := blk_cell I4.out.b1 0
    have c3 := I4.out.fd.c3
    have c4 := I4.out.fd.c4
    go_wp2_with (first
      | (refine wpList_store_row rfl 24 _ _ rfl g2 (#[.int .i64 0, .int .i64 0, .int .i64 0, .string ⟨#[]⟩, .int .i64 0, .int .i64 0, .bool false, .int .i64 0, .int .i64 0, .int .i64 0, .slice none 0 0]) rfl rfl 24 _ I4.out.b2 (by kernel_rfl) (by kernel_rfl) (by kernel_rfl) ?_; obtain ⟨W8, e8, q4, qo, qb⟩ := row_store _ g2 (#[.int .i64 0, .int .i64 0, .int .i64 0, .string ⟨#[]⟩, .int .i64 0, .int .i64 0, .bool false, .int .i64 0, .int .i64 0, .int .i64 0, .slice none 0 0]) 24 _ I4.out.b2; rw [e8]; have I8 := Aside0.mk (I4.out.row2 (x' := Fr.zero) (A' := none) (c' := 0) q4 qo qb); have k3 := blk_cell I8.out.b3 0; have kf3 := blk_frozen I8.out.b3 0; clear q4 qo qb e8)
      | (refine wpList_store_row rfl 35 _ _ rfl g4 #[.int .i64 f.code, .int .i64 f.st] rfl rfl 35 _ (I8.out.put3 false).b4 (by kernel_rfl) (by kernel_rfl) (by kernel_rfl) ?_; obtain ⟨W9, e9, p6, po, pb⟩ := row_store _ g4 #[.int .i64 f.code, .int .i64 f.st] 35 _ (I8.out.put3 false).b4; rw [e9]; have I9 := Aside0.mk (NI.row4 (I8.out.put3 false) p6 po pb); clear p6 po pb e9))
    go_end0
    exact ⟨rfl, .inr ⟨HY.out, I9.out⟩⟩
/-- An answer of Next. -/
structure Nx where
  fr : Fr
  ok : Bool
  code : Int
  st : Int
def doneF (f : Fd) (r : Nx) : Fd × Nx := if brB f = true then ({ f with wt := ByteArray.empty }, ⟨Fr.zero, false, f.code, f.st⟩) else (f, r)
/-- What Next tells, and the feed behind it. -/
def nextF (f : Fd) : Fd × Nx :=
  if brB f = true then doneF f ⟨Fr.zero, false, 0, 0⟩
  else if (begunF f).1 = false then doneF (begunF f).2 ⟨Fr.zero, false, 0, 0⟩
  else if (rdF (begunF f).2.wt (begunF f).2.most).code ≠ 0 ∧ (rdF (begunF f).2.wt (begunF f).2.most).st = 0 then
    doneF { (begunF f).2 with code := (rdF (begunF f).2.wt (begunF f).2.most).code, st := 0 } ⟨Fr.zero, false, (rdF (begunF f).2.wt (begunF f).2.most).code, 0⟩
  else if (rdF (begunF f).2.wt (begunF f).2.most).code ≠ 0 then
    doneF { (begunF f).2 with wt := (begunF f).2.wt.extract (rdF (begunF f).2.wt (begunF f).2.most).no.toNat (begunF f).2.wt.size } ⟨Fr.zero, false, (rdF (begunF f).2.wt (begunF f).2.most).code, (rdF (begunF f).2.wt (begunF f).2.most).st⟩
  else doneF { (begunF f).2 with wt := (begunF f).2.wt.extract (rdF (begunF f).2.wt (begunF f).2.most).no.toNat (begunF f).2.wt.size } ⟨(rdF (begunF f).2.wt (begunF f).2.most).fr, decide (0 < (rdF (begunF f).2.wt (begunF f).2.most).no), 0, 0⟩
/-- Next's answer: the params are a row of their own. -/
def NxPost (g : Nat) (w : World) (r : Fd × Nx) (e : Ending) (w' : World) : Prop := ∃ A c, e = .returned (.tuple #[.agg (r.2.fr.cells A c), .bool r.2.ok, .agg #[.int .i64 r.2.code, .int .i64 r.2.st]]) ∧ Kd.R k32 32 w' w.heap.size (fun _ => True) (.slice A r.2.fr.ps.length c) r.2.fr.ps ∧ FAt w' g r.1 ∧ Chg g w w'
theorem res36 (tmps : Array Value) (W : World) (g2 g3 g4 : Nat) (f : Fr) (A : Option Addr) (c : Nat) (ok : Bool) (code st : Int) (h2 : tmps.getD 2 undef = .pointer (some ⟨g2, 0, none⟩)) (h3 : tmps.getD 3 undef = .pointer (some ⟨g3, 0, none⟩)) (h4 : tmps.getD 4 undef = .pointer (some ⟨g4, 0, none⟩)) (hf : At W g2 f A c) (ho : W.heap[g3]? = some (.cells #[.bool ok] 4 (0, 0))) (he : W.heap[g4]? = some (.cells #[.int .i64 code, .int .i64 st] 35 (0, 0))) :
    (results Tryd.f36 tmps).run Tryd.prog W = .ok (.tuple #[.agg (f.cells A c), .bool ok, .agg #[.int .i64 code, .int .i64 st]]) W := by
  have r1 := run_loadVar_row (P := Tryd.prog) W g2 24 24 (f.cells A c) (0, 0) _ hf Tryd.underlying24 (by rfl) (by kernel_rfl)
  have r2 := run_loadVar_row (P := Tryd.prog) W g4 35 35 #[.int .i64 code, .int .i64 st] (0, 0) _ he Tryd.underlying35 (by rfl) (by kernel_rfl)
  have r3 : (loadVar 4 ⟨g3, 0, none⟩).run Tryd.prog W = .ok (.bool ok) W := by
    have hc : W.cell? ⟨g3, 0, none⟩ = some (.bool ok) := blk_cell ho 0
    simp [go_sem, hc]
  have e : Tryd.f36.results = #[.cell 2 24, .cell 3 4, .cell 4 35] := rfl
  simp only [Array.getD_eq_getD_getElem?] at h2 h3 h4
  simp [results, e, h2, h3, h4, asAddr, Sem.run_bind, r1, r2, r3]
theorem alloc3n (w : World) (a b c : Obj) : (((w.alloc a).alloc b).alloc c).heap[w.heap.size + 1 + 1]? = some c := by
  have h := heap_alloc2_new (w.alloc a) b c
  rw [World.size_alloc] at h
  exact h
theorem rdF_no (b : ByteArray) (most : Int) : 0 ≤ (rdF b most).no ∧ (rdF b most).no ≤ b.size := by
  have hz : ∀ c, 0 ≤ (Rd.bad c).no ∧ (Rd.bad c).no ≤ b.size := fun c => ⟨Int.le_refl _, by show (0 : Int) ≤ _; omega⟩
  unfold rdF
  by_cases h1 : b.size < 9
  · rw [if_pos h1]
    exact hz 0
  rw [if_neg h1]
  by_cases h2 : min (max most 16384) 65536 < rdN b
  · rw [if_pos h2]
    exact hz 6
  rw [if_neg h2]
  by_cases h3 : (b.size : Int) - 9 < rdN b
  · rw [if_pos h3]
    exact hz 0
  rw [if_neg h3]
  have hn0 : 0 ≤ rdN b := (num_bd _).1
  have hy : 0 ≤ 9 + rdN b ∧ 9 + rdN b ≤ b.size := by omega
  unfold rdRest
  split
  · exact hz 1
  split
  · exact hz 6
  split
  · exact hz 1
  split
  · split
    · exact hy
    · exact hz 6
  · exact hy
theorem begun_is (g : Nat) (f : Fd) (y : Bool) (f' : Fd) (w : World) (h : FAt w g f) (hs : f.wt.size ≤ 9223372036854775807) (hp : f.pf.size ≤ 9223372036854775807) (he : begunF f = (y, f')) : Calls Tryd.prog 69 #[.pointer (some ⟨g, 0, none⟩)] w fun e w' => e = .returned (.bool y) ∧ FAt w' g f' ∧ Chg g w w' := by
  have := begun_calls g f w h hs hp
  rw [he] at this
  exact this
theorem fat_ne {w : World} {g : Nat} {f : Fd} (hG : GL w) (h : FAt w g f) : g ≠ 0 := by
  rintro rfl
  have h1 := hG 1 0 rfl
  rw [h.c1] at h1
  cases h1
theorem ni_new (w : World) (g : Nat) (f : Fd) (h : FAt w g f) : NI w ((((w.alloc (.cells #[.pointer (some ⟨g, 0, none⟩)] 50)).alloc (.cells #[.int .i64 0, .int .i64 0, .int .i64 0, .string ⟨#[]⟩, .int .i64 0, .int .i64 0, .bool false, .int .i64 0, .int .i64 0, .int .i64 0, .slice none 0 0] 24)).alloc (.cells #[.bool false] 4)).alloc (.cells #[.int .i64 0, .int .i64 0] 35)) g w.heap.size (w.heap.size + 1) (w.heap.size + 1 + 1) (w.heap.size + 1 + 1 + 1) f Fr.zero none 0 false 0 0 := by
  have hb : Below w.heap.size w ((((w.alloc (.cells #[.pointer (some ⟨g, 0, none⟩)] 50)).alloc (.cells #[.int .i64 0, .int .i64 0, .int .i64 0, .string ⟨#[]⟩, .int .i64 0, .int .i64 0, .bool false, .int .i64 0, .int .i64 0, .int .i64 0, .slice none 0 0] 24)).alloc (.cells #[.bool false] 4)).alloc (.cells #[.int .i64 0, .int .i64 0] 35)) := below_alloc (below_alloc (below_alloc (below_alloc (Below.refl _ _) _) _) _) _
  refine ⟨h.low hb, ?_, ?_, ?_, ?_, Chg.of hb, blk_lt h, by omega⟩
  · exact blk_alloc (blk_alloc (heap_alloc2_old _ _ _) _) _
  · exact blk_alloc (blk_alloc (heap_alloc2_new _ _ _) _) _
  · exact blk_alloc (alloc3n w _ _ _) _
  · have h := alloc3n (w.alloc (.cells #[.pointer (some ⟨g, 0, none⟩)] 50)) (.cells #[.int .i64 0, .int .i64 0, .int .i64 0, .string ⟨#[]⟩, .int .i64 0, .int .i64 0, .bool false, .int .i64 0, .int .i64 0, .int .i64 0, .slice none 0 0] 24) (.cells #[.bool false] 4) (.cells #[.int .i64 0, .int .i64 0] 35)
    rw [World.size_alloc] at h
    exact h
theorem door_calls (w W : World) (g g1 g2 g3 g4 : Nat) (f : Fd) (x : Fr) (A : Option Addr) (c : Nat) (ok : Bool) (code st : Int) (I : NI w W g g1 g2 g3 g4 f x A c ok code st) (KR : Kd.R k32 32 W w.heap.size (fun k => g4 < k) (.slice A x.ps.length c) x.ps) (F : Fd × Nx) (hF : doneF f ⟨x, ok, code, st⟩ = F)
    (a : Act) (h2 : a.tmps.getD 2 undef = .pointer (some ⟨g2, 0, none⟩)) (h3 : a.tmps.getD 3 undef = .pointer (some ⟨g3, 0, none⟩)) (h4 : a.tmps.getD 4 undef = .pointer (some ⟨g4, 0, none⟩))
    (hd : a.defers = [{ target := .fn (.func 68) #[.pointer (some ⟨g1, 0, none⟩), .pointer (some ⟨g2, 0, none⟩), .pointer (some ⟨g3, 0, none⟩), .pointer (some ⟨g4, 0, none⟩)], args := #[] }]) : bodyPostD Tryd.prog Tryd.f36 (fun e w' => NxPost g w F e w') Exit.ret a W := by
  show Leaves Tryd.prog Tryd.f36 a.tmps _ a.defers .returning W
  rw [hd]
  refine leaves_cons (f := 68) (args := #[.pointer (some ⟨g1, 0, none⟩), .pointer (some ⟨g2, 0, none⟩), .pointer (some ⟨g3, 0, none⟩), .pointer (some ⟨g4, 0, none⟩)]) (by simp) (by simp [go_sem]) ?_
  refine (close_calls w W g g1 g2 g3 g4 f x A c ok code st I).mono ?_
  rintro e u' w' ⟨rfl, rfl, h⟩
  subst hF
  unfold doneF
  rcases h with ⟨hb, hi, hl⟩ | ⟨hb, hi⟩
  · refine ⟨_, res36 a.tmps w' g2 g3 g4 x A c ok code st h2 h3 h4 hi.b2 hi.b3 hi.b4, ?_⟩
    rw [if_neg (by rw [hb]; decide)]
    exact ⟨A, c, rfl, Kd.R_mono (Kd.R_below KR hl) (fun _ _ => trivial), hi.fd, hi.chg⟩
  · refine ⟨_, res36 a.tmps w' g2 g3 g4 Fr.zero none 0 false f.code f.st h2 h3 h4 hi.b2 hi.b3 hi.b4, ?_⟩
    rw [if_pos hb]
    exact ⟨none, 0, rfl, Kd.R_nil _ _ _ _ _, hi.fd, hi.chg⟩
end Go.Proofs.YtoffhlbdfhhhjaaDoor.Fr
