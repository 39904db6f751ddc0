/- FeedPlays: always true where the script is small. The package's variable holds what the program lays. -/
import Derived.Test.YtoffhlbdfhhhjaaDoorMFyF
import Derived.Test.YtoffhlbdfhhhjaaDoorMFyK
import Derived.Test.YtoffhlbdfhhhjaaDoorMFdV
import Derived.LoopN
namespace Go.Proofs.YtoffhlbdfhhhjaaDoor.Fr
open Go Go.RowKit Go.Proofs.YtoffhlbdfhhhjaaDoorW.PrintWords Go.Proofs.YtoffhlbdfhhhjaaDoorW.PrintLast Go.Proofs.YtoffhlbdfhhhjaaDoorW.PrintMore Go.Proofs.YtoffhlbdfhhhjaaDoor.QL
set_option linter.unusedSimpArgs false
set_option linter.unusedVariables false
set_option maxHeartbeats 8000000
set_option maxRecDepth 100000
theorem load_rowG7 {P : Program} {ops : Array Oper} {rest : List Oper} {o : Oper} {a : Act} {w : World} {Q : Exit → Act → World → Prop} (hw : Region.wanted o (yielded ops a.tmps) = true) (ty : TypeId) (x : Operand) (ho : o.op = .load ty x)
    (g : Nat) (hx : a.eval x = .pointer (some ⟨g, 0, none⟩)) (t : TypeId) (cs : Array Value) (fr : Nat × Nat) (d : TypeDesc) (hg : w.heap[g]? = some (.cells cs t fr))
    (hu : P.underlying ty = some d) (hd : (match d with | .struct _ | .array _ _ => true | _ => false) = true) (hi : (P.info? ty).map (·.size) = some cs.size)
    (h : wpList P ops Q rest (a.put o.dst (.agg cs)) w) : wpList P ops Q (o :: rest) a w :=
  BigFrame.wpList_want hw fun _ hK => wp_load_row ty x ho g hx t cs fr d hg hu hd hi (hK _ _ h)
theorem eqA35 (d : Nat) (w : World) (x0 y0 : Int) (x1 y1 : Int) :
    (Op.equalIn (d + 2) 35 (.agg #[.int .i64 x0, .int .i64 x1]) (.agg #[.int .i64 y0, .int .i64 y1])).run Tryd.prog w = .ok (x0 == y0 && (x1 == y1)) w := by
  refine eqA_of Tryd.underlying35 (by kernel_rfl) ?_
  refine eqf_cons (by rfl) (by go_simp; rfl) (by go_simp; rfl) (by go_simp) ?_
  exact eqf_last (by rfl) (by go_simp; rfl) (by go_simp; rfl) (by go_simp)
theorem waitq_at {g : Nat} {d : Dc} {w : World} (h : FAt w g d.fd) (n : Nat) : Calls Tryd.prog 35 #[.pointer (some ⟨g, 0, none⟩)] (w.drewN n) fun e w' => e = .returned (.int .i64 (d.b.size : Int)) ∧ w' = w.drewN n := by
  have z1 := (h.low (pw_below_drewN (Below.refl _ _) n)).c1
  have hw : d.fd.wt = d.b := rfl
  rw [hw] at z1
  generalize w.drewN n = W at z1 ⊢
  clear h hw
  go_enter Tryd.func35, Tryd.ntmps35
  go_wp2_with fail
  go_ret
  exact ⟨rfl, rfl⟩
theorem waitq7_at {g : Nat} {d : Dc} {w : World} (h : DAt w g d) (n : Nat) : Calls Tryd.prog 44 #[.pointer (some ⟨g, 0, none⟩)] (w.drewN n) fun e w' => e = .returned (.int .i64 (d.b.size : Int)) ∧ w' = w.drewN n := by
  have z1 := (h.low (pw_below_drewN (Below.refl _ _) n)).c2
  generalize w.drewN n = W at z1 ⊢
  clear h
  go_enter Tryd.func44, Tryd.ntmps44
  go_wp2_with fail
  go_ret
  exact ⟨rfl, rfl⟩
def newD (s : Bool) (m : Int) : Dc := ⟨s, m, ByteArray.empty, 0, 0⟩
theorem new_ex (s : Bool) (m : Int) (W : World) : Calls Tryd.prog 31 #[.bool s, .int .i64 m] W fun e w' => ∃ p, e = .returned (.pointer (some ⟨p, 0, none⟩)) ∧ FAt w' p (newD s m).fd ∧ W.heap.size ≤ p ∧ Below W.heap.size W w' := by
  refine (new_calls s m W).mono ?_
  rintro e w' ⟨rfl, hf, hb⟩
  exact ⟨_, rfl, hf, Nat.le_refl _, hb⟩
theorem new7_ex (s : Bool) (m : Int) (W : World) : Calls Tryd.prog 37 #[.bool s, .int .i64 m] W fun e w' => ∃ p, e = .returned (.pointer (some ⟨p, 0, none⟩)) ∧ DAt w' p (newD s m) ∧ W.heap.size ≤ p ∧ Below W.heap.size W w' := by
  refine (new7_calls s m W).mono ?_
  rintro e w' ⟨rfl, hf, hb⟩
  exact ⟨_, rfl, hf, Nat.le_refl _, hb⟩
theorem new_ok (s : Bool) (m : Int) : (newD s m).Ok := ⟨rfl, fun h => absurd rfl h⟩
theorem push_same (d : Dc) (s : ByteArray) (h : d.Ok) : pushF d.fd s = (pushR d s).fd ∧ (pushR d s).Ok ∧ (pushR d s).b.size ≤ d.b.size + s.size := by
  obtain ⟨h1, h2⟩ := h
  unfold pushF pushR
  by_cases hc : d.code = 0
  · rw [if_pos hc, if_neg (by rw [brB_no (by exact hc) (by exact h1)]; decide)]
    exact ⟨rfl, ⟨h1, fun h => absurd hc h⟩, by show (d.b ++ s).size ≤ _; rw [ByteArray.size_append]; omega⟩
  · rw [if_neg hc, if_pos (brB_yes (by exact hc))]
    exact ⟨rfl, ⟨h1, h2⟩, by omega⟩
theorem restD_size (f : Dc) : (restD f).1.b.size ≤ f.b.size := by
  unfold restD
  repeat' split
  · show ByteArray.empty.size ≤ _; exact Nat.zero_le _
  · show (f.b.extract _ _).size ≤ _; rw [ByteArray.size_extract]; omega
  · exact Nat.le_refl _
  · show (f.b.extract _ _).size ≤ _; rw [ByteArray.size_extract]; omega
theorem nextD_size (f : Dc) : (nextD f).1.b.size ≤ f.b.size := by
  unfold nextD
  split
  · exact Nat.le_refl _
  split
  · exact restD_size f
  split
  · show ByteArray.empty.size ≤ _; exact Nat.zero_le _
  split
  · exact Nat.le_refl _
  · refine Nat.le_trans (restD_size _) ?_
    show (f.b.extract _ _).size ≤ _; rw [ByteArray.size_extract]; omega
theorem fd_pf (d : Dc) : d.fd.pf.size ≤ 9223372036854775807 := by
  unfold Dc.fd
  split
  · show prefaceB.size ≤ _; rw [pf_size]; omega
  · show ByteArray.empty.size ≤ _; exact Nat.zero_le _
theorem ne112 : ∀ q, q ∈ 32 :: k32.E → q ≠ 112 := by
  intro q hq
  have : q = 32 := by simpa [k32, Kd.iso, Kd.pair, Kd.int, Kd.scalar] using hq
  subst this
  decide
theorem blk_ne {W : World} {x g : Nat} {c1 c2 : Array Value} {t1 t2 : TypeId} (h : W.heap[x]? = some (.cells c1 t1 (0, 0))) (k : W.heap[g]? = some (.cells c2 t2 (0, 0))) (ht : t1 ≠ t2) : x ≠ g := by
  rintro rfl
  rw [h] at k
  injection k with k
  injection k with _ k _
  exact ht k
theorem row_chg {W W1 : World} {g base : Nat} {d : Dc} {v : Value} {ps : List S32} (h : Kd.R k32 32 W base (fun _ => True) v ps) (hq : DAt W g d) (hc : Chg g W W1) : Kd.R k32 32 W1 base (fun _ => True) v ps :=
  Kd.R_mono (Kd.R_step (Kd.R_types h hq ne112) (fun j hj hl => hc.block j hl hj.2)) (fun _ _ => trivial)
theorem row_parts {W : World} {base c : Nat} {A : Option Addr} {ps : List S32} (h : Kd.R k32 32 W base (fun _ => True) (.slice A ps.length c) ps) : ps.length ≤ c ∧ Kd.C k32 W A ps.length ps ∧ ps.length ≤ 9223372036854775807 := by
  obtain ⟨inner, ho⟩ := Kd.R_own h
  obtain ⟨A', c', ea, h1, h2⟩ := Kd.R_reads h
  injection ea with ea1 _ ea2
  subst ea1; subst ea2
  refine ⟨h1, h2, ?_⟩
  rcases ho.2 with ⟨_, h0⟩ | ⟨g, cap, cur, e, _, _, h3, h4, _⟩
  · omega
  · unfold maxLen at h4
    omega
theorem nx_open {g : Nat} {w w' : World} {D : Fd} {N : Nx} {e : Ending} (h : NxPost g w (D, N) e w') : ∃ A c, e = .returned (.tuple #[.agg (N.fr.cells A c), .bool N.ok, .agg #[.int .i64 N.code, .int .i64 N.st]]) ∧ Kd.R k32 32 w' w.heap.size (fun _ => True) (.slice A N.fr.ps.length c) N.fr.ps ∧ FAt w' g D ∧ Chg g w w' := h
theorem ny_open {g : Nat} {w w' : World} {D : Dc} {N : Nx} {e : Ending} (h : NyPost g w (D, N) e w') : ∃ A c, e = .returned (.tuple #[.agg (N.fr.cells A c), .bool N.ok, .agg #[.int .i64 N.code, .int .i64 N.st]]) ∧ Kd.R k32 32 w' w.heap.size (fun _ => True) (.slice A N.fr.ps.length c) N.fr.ps ∧ DAt w' g D ∧ Chg g w w' := h
/-- Two feeds of each kind, each in a block of its own, and the two arrays that lead to them. -/
structure PI (w W : World) (al ar p0 q0 p1 q1 : Nat) (a0 a1 : Fd) (d0 d1 : Dc) : Prop where
  la : W.heap[al]? = some (.cells #[.pointer (some ⟨p0, 0, none⟩), .pointer (some ⟨p1, 0, none⟩)] 66 (0, 0))
  ra : W.heap[ar]? = some (.cells #[.pointer (some ⟨q0, 0, none⟩), .pointer (some ⟨q1, 0, none⟩)] 68 (0, 0))
  f0 : FAt W p0 a0
  f1 : FAt W p1 a1
  g0 : DAt W q0 d0
  g1 : DAt W q1 d1
  low : Below w.heap.size w W
  ne : w.heap.size ≤ al ∧ al < ar ∧ ar < p0 ∧ p0 < q0 ∧ q0 < p1 ∧ p1 < q1
section
variable {w W W' : World} {al ar p0 q0 p1 q1 : Nat} {a0 a1 a : Fd} {d0 d1 d : Dc}
theorem PI.below (r : PI w W al ar p0 q0 p1 q1 a0 a1 d0 d1) (hb : Below W.heap.size W W') : PI w W' al ar p0 q0 p1 q1 a0 a1 d0 d1 :=
  ⟨blk_below r.la hb, blk_below r.ra hb, r.f0.low hb, r.f1.low hb, r.g0.low hb, r.g1.low hb, below_then r.low r.low.size hb, r.ne⟩
theorem PI.putP0 (r : PI w W al ar p0 q0 p1 q1 a0 a1 d0 d1) (h : FAt W' p0 a) (hc : Chg p0 W W') : PI w W' al ar p0 q0 p1 q1 a a1 d0 d1 := by
  have hn := r.ne
  have hs := r.low.size
  exact ⟨hc.blk r.la (by omega), hc.blk r.ra (by omega), h, hc.fat r.f1 (by omega), hc.dat r.g0 (by omega), hc.dat r.g1 (by omega), hc.below r.low (by omega) hs, hn⟩
theorem PI.putP1 (r : PI w W al ar p0 q0 p1 q1 a0 a1 d0 d1) (h : FAt W' p1 a) (hc : Chg p1 W W') : PI w W' al ar p0 q0 p1 q1 a0 a d0 d1 := by
  have hn := r.ne
  have hs := r.low.size
  exact ⟨hc.blk r.la (by omega), hc.blk r.ra (by omega), hc.fat r.f0 (by omega), h, hc.dat r.g0 (by omega), hc.dat r.g1 (by omega), hc.below r.low (by omega) hs, hn⟩
theorem PI.putQ0 (r : PI w W al ar p0 q0 p1 q1 a0 a1 d0 d1) (h : DAt W' q0 d) (hc : Chg q0 W W') : PI w W' al ar p0 q0 p1 q1 a0 a1 d d1 := by
  have hn := r.ne
  have hs := r.low.size
  exact ⟨hc.blk r.la (by omega), hc.blk r.ra (by omega), hc.fat r.f0 (by omega), hc.fat r.f1 (by omega), h, hc.dat r.g1 (by omega), hc.below r.low (by omega) hs, hn⟩
theorem PI.putQ1 (r : PI w W al ar p0 q0 p1 q1 a0 a1 d0 d1) (h : DAt W' q1 d) (hc : Chg q1 W W') : PI w W' al ar p0 q0 p1 q1 a0 a1 d0 d := by
  have hn := r.ne
  have hs := r.low.size
  exact ⟨hc.blk r.la (by omega), hc.blk r.ra (by omega), hc.fat r.f0 (by omega), hc.fat r.f1 (by omega), hc.dat r.g0 (by omega), h, hc.below r.low (by omega) hs, hn⟩
end
/-- While the arrays are being filled. -/
structure TI (w W : World) (b3 b4 al ar : Nat) (s0 s1 : Bool) (m0 m1 : Int) (x0 x1 y0 y1 : Value) : Prop where
  h3 : W.heap[b3]? = some (.cells #[.bool s0, .bool s1] 63 (0, 0))
  h4 : W.heap[b4]? = some (.cells #[.int .i64 m0, .int .i64 m1] 64 (0, 0))
  la : W.heap[al]? = some (.cells #[x0, x1] 66 (0, 0))
  ra : W.heap[ar]? = some (.cells #[y0, y1] 68 (0, 0))
  low : Below w.heap.size w W
  ne : w.heap.size ≤ b3 ∧ b3 < b4 ∧ b4 < al ∧ al < ar
section
variable {w W W' : World} {b3 b4 al ar : Nat} {s0 s1 : Bool} {m0 m1 : Int} {x0 x1 y0 y1 : Value}
theorem TI.below (r : TI w W b3 b4 al ar s0 s1 m0 m1 x0 x1 y0 y1) (hb : Below W.heap.size W W') : TI w W' b3 b4 al ar s0 s1 m0 m1 x0 x1 y0 y1 :=
  ⟨blk_below r.h3 hb, blk_below r.h4 hb, blk_below r.la hb, blk_below r.ra hb, below_then r.low r.low.size hb, r.ne⟩
theorem TI.setl0 (r : TI w W b3 b4 al ar s0 s1 m0 m1 x0 x1 y0 y1) (u : Value) : TI w (W.setCell ⟨al, 0, none⟩ u) b3 b4 al ar s0 s1 m0 m1 u x1 y0 y1 := by
  have hn := r.ne
  have hs := r.low.size
  exact ⟨blk_far r.h3 (show b3 ≠ al by omega) _, blk_far r.h4 (show b4 ≠ al by omega) _, by have h := blk_set r.la 0 u; simpa using h, blk_far r.ra (show ar ≠ al by omega) _, (Chg.set W 0 u).below r.low (by omega) hs, hn⟩
theorem TI.setl1 (r : TI w W b3 b4 al ar s0 s1 m0 m1 x0 x1 y0 y1) (u : Value) : TI w (W.setCell ⟨al, 1, none⟩ u) b3 b4 al ar s0 s1 m0 m1 x0 u y0 y1 := by
  have hn := r.ne
  have hs := r.low.size
  exact ⟨blk_far r.h3 (show b3 ≠ al by omega) _, blk_far r.h4 (show b4 ≠ al by omega) _, by have h := blk_set r.la 1 u; simpa using h, blk_far r.ra (show ar ≠ al by omega) _, (Chg.set W 1 u).below r.low (by omega) hs, hn⟩
theorem TI.setr0 (r : TI w W b3 b4 al ar s0 s1 m0 m1 x0 x1 y0 y1) (u : Value) : TI w (W.setCell ⟨ar, 0, none⟩ u) b3 b4 al ar s0 s1 m0 m1 x0 x1 u y1 := by
  have hn := r.ne
  have hs := r.low.size
  exact ⟨blk_far r.h3 (show b3 ≠ ar by omega) _, blk_far r.h4 (show b4 ≠ ar by omega) _, blk_far r.la (show al ≠ ar by omega) _, by have h := blk_set r.ra 0 u; simpa using h, (Chg.set W 0 u).below r.low (by omega) hs, hn⟩
theorem TI.setr1 (r : TI w W b3 b4 al ar s0 s1 m0 m1 x0 x1 y0 y1) (u : Value) : TI w (W.setCell ⟨ar, 1, none⟩ u) b3 b4 al ar s0 s1 m0 m1 x0 x1 y0 u := by
  have hn := r.ne
  have hs := r.low.size
  exact ⟨blk_far r.h3 (show b3 ≠ ar by omega) _, blk_far r.h4 (show b4 ≠ ar by omega) _, blk_far r.la (show al ≠ ar by omega) _, by have h := blk_set r.ra 1 u; simpa using h, (Chg.set W 1 u).below r.low (by omega) hs, hn⟩
end
/-- But for the two arrays, what was there stays. -/
structure Kp (al ar : Nat) (W W' : World) : Prop where
  size : W.heap.size ≤ W'.heap.size
  block : ∀ k, k ≠ al → k ≠ ar → k < W.heap.size → W'.heap[k]? = W.heap[k]?
theorem Kp.trans {al ar : Nat} {W W1 W2 : World} (h : Kp al ar W W1) (k : Kp al ar W1 W2) : Kp al ar W W2 := ⟨Nat.le_trans h.size k.size, fun i h1 h2 hl => (k.block i h1 h2 (Nat.lt_of_lt_of_le hl h.size)).trans (h.block i h1 h2 hl)⟩
theorem Kp.step {al ar g j : Nat} {W W1 : World} {u : Value} (hb : Below W.drew.heap.size W.drew W1) (hg : g = al ∨ g = ar) : Kp al ar W (W1.setCell ⟨g, j, none⟩ u) :=
  ⟨by have h := hb.size; simp [World.setCell]; exact h, fun k h1 h2 hl => (Below.heap_setCell W1 ⟨g, j, none⟩ u k (by show k ≠ g; omega)).trans (hb.block k hl)⟩
theorem set_size (W : World) (p : Addr) (u : Value) : (W.setCell p u).heap.size = W.heap.size := by simp [World.setCell]
theorem pi_of {w W1 W2 W3 W4 : World} {b3 b4 al ar p0 q0 p1 q1 : Nat} {s0 s1 : Bool} {m0 m1 : Int} {a0 a1 : Fd} {d0 d1 : Dc} {W0 : World} (T : TI w W4 b3 b4 al ar s0 s1 m0 m1 (.pointer (some ⟨p0, 0, none⟩)) (.pointer (some ⟨p1, 0, none⟩)) (.pointer (some ⟨q0, 0, none⟩)) (.pointer (some ⟨q1, 0, none⟩)))
    (f0 : FAt W1 p0 a0) (g0 : DAt W2 q0 d0) (f1 : FAt W3 p1 a1) (g1 : DAt W4 q1 d1) (k2 : Kp al ar W1 W2) (k3 : Kp al ar W2 W3) (k4 : Kp al ar W3 W4) (h0 : ar < p0 ∧ p0 < W1.heap.size) (h1 : W1.heap.size ≤ q0 ∧ q0 < W2.heap.size) (h2 : W2.heap.size ≤ p1 ∧ p1 < W3.heap.size) (h3 : W3.heap.size ≤ q1 ∧ q1 < W4.heap.size) : PI w W4 al ar p0 q0 p1 q1 a0 a1 d0 d1 := by
  have hn := T.ne
  exact ⟨T.la, T.ra, (((k2.trans k3).trans k4).block p0 (by omega) (by omega) (by omega)).trans f0, (k4.block p1 (by omega) (by omega) (by omega)).trans f1, ((k3.trans k4).block q0 (by omega) (by omega) (by omega)).trans g0, g1, T.low, by omega⟩
attribute [local go_sem high] eqA35
theorem plays7_calls (s0 s1 : Bool) (m0 m1 : Int) (A : Option Addr) (c : Nat) (l : List S71) (w : World) (hG : GL w) (hr : Kd.C k71 w A l.length l) (hn : l.length ≤ 1048576) (ht : ∀ x ∈ l, x.f2.size ≤ 1048576) (h3 : ∀ x ∈ l, x.f3 ≤ 9223372036854775807) :
    Calls Tryd.prog 11 #[.agg #[.bool s0, .bool s1], .agg #[.int .i64 m0, .int .i64 m1], .slice A l.length c] w fun e w' => e = .returned (.bool true) ∧ Below w.heap.size w w' := by
  have HG := Aside0.mk hG
  have HR := Aside0.mk hr
  have HL := Aside0.mk hn
  have HT := Aside0.mk ht
  have H3 := Aside0.mk h3
  have HB := Aside0.mk (Below.refl w.heap.size w)
  clear hG hr hn ht h3
  go_enter Tryd.func11, Tryd.ntmps11
  go_upto_if 6 with (go_at_call 29; refine (head_calls _ (HG.out.below (below_alloc (below_alloc HB.out _) _))).mono ?_; rintro e wh ⟨rfl, hb⟩; have HH := Aside0.mk hb; clear hb)
  obtain ⟨b3, hb3⟩ : ∃ g, w.heap.size = g := ⟨_, rfl⟩
  obtain ⟨b4, hb4⟩ : ∃ g, b3 + 1 = g := ⟨_, rfl⟩
  obtain ⟨al, hal⟩ : ∃ g, wh.heap.size = g := ⟨_, rfl⟩
  obtain ⟨ar, har⟩ : ∃ g, al + 1 = g := ⟨_, rfl⟩
  obtain ⟨W0, hW⟩ : ∃ W, (wh.alloc (.cells #[.pointer none, .pointer none] 66)).alloc (.cells #[.pointer none, .pointer none] 68) = W := ⟨_, rfl⟩
  have T1 : Aside0 (TI w W0 b3 b4 al ar s0 s1 m0 m1 (.pointer none) (.pointer none) (.pointer none) (.pointer none)) := ⟨by
    have hs := HH.out.size
    rw [World.size_alloc, World.size_alloc] at hs
    have h3 : wh.heap[b3]? = some (.cells #[.bool s0, .bool s1] 63 (0, 0)) := blk_below (by rw [← hb3]; exact heap_alloc2_old _ _ _) HH.out
    have h4 : wh.heap[b4]? = some (.cells #[.int .i64 m0, .int .i64 m1] 64 (0, 0)) := blk_below (by rw [← hb4, ← hb3]; exact heap_alloc2_new _ _ _) HH.out
    have hlo : Below w.heap.size w wh := below_then (below_alloc (below_alloc HB.out _) _) (by rw [World.size_alloc, World.size_alloc]; omega) HH.out
    rw [← hW]
    exact ⟨blk_alloc (blk_alloc h3 _) _, blk_alloc (blk_alloc h4 _) _, by rw [← hal]; exact heap_alloc2_old _ _ _, by rw [← har, ← hal]; exact heap_alloc2_new _ _ _, below_alloc (below_alloc hlo _) _, by omega⟩⟩
  rw [hb3, hb4, hal, har, hW]
  clear hb3 hb4 hal har hW HH
  refine wp_loop_rounds 4 ?_
  rw [rounds_succ]
  go_upto_region 8 with fail
  refine start_ (n := 10) (S := fun w' => w'.cell? ⟨b3, 0, none⟩ = some (.bool s0) ∧ w'.cell? ⟨b4, 0, none⟩ = some (.int .i64 m0) ∧ TI w w' b3 b4 al ar s0 s1 m0 m1 (.pointer none) (.pointer none) (.pointer none) (.pointer none)) (ds := [9]) #[false, false, false, false, false, false, false, false, false, false] (by kernel_rfl) rfl rfl ⟨blk_cell (T1.out.below (below_drew (Below.refl _ _))).h3 0, blk_cell (T1.out.below (below_drew (Below.refl _ _))).h4 0, (T1.out.below (below_drew (Below.refl _ _)))⟩ (fun hHeld => ?_)
  refine pure_ (i := 0) (N := some 25) (v := ?_) (a' := ?_) #[true, false, false, false, false, false, false, false, false, false] rfl rfl (by kernel_rfl) (fun _ _ _ h => h) (Or.inl ⟨by rfl, ?_⟩) ?_ ?_
  rotate_left
  · intro w'
    go_simp
    with_reducible rfl
  rotate_left
  · simp only [Act.put, List.setIfInBounds_toArray, List.set_cons_zero, List.set_cons_succ, i64_w, i32_w]
    rfl
  refine pure_ (i := 1) (N := some 26) (v := ?_) (a' := ?_) #[true, true, false, false, false, false, false, false, false, false] rfl rfl (by kernel_rfl) (fun _ _ _ h => h) (Or.inl ⟨by rfl, ?_⟩) ?_ ?_
  rotate_left
  · intro w'
    go_simp
    with_reducible rfl
  rotate_left
  · simp only [Act.put, List.setIfInBounds_toArray, List.set_cons_zero, List.set_cons_succ, i64_w, i32_w]
    rfl
  refine pure_ (i := 2) (N := some 27) (v := ?_) (a' := ?_) #[true, true, true, false, false, false, false, false, false, false] rfl rfl (by kernel_rfl) (fun _ _ _ h => h) (Or.inl ⟨by rfl, ?_⟩) ?_ ?_
  rotate_left
  · intro w'
    go_simp
    with_reducible rfl
  rotate_left
  · simp only [Act.put, List.setIfInBounds_toArray, List.set_cons_zero, List.set_cons_succ, i64_w, i32_w]
    rfl
  refine pure_ (i := 4) (N := some 29) (v := ?_) (a' := ?_) #[true, true, true, false, true, false, false, false, false, false] rfl rfl (by kernel_rfl) (fun _ _ _ h => h) (Or.inl ⟨by rfl, ?_⟩) ?_ ?_
  rotate_left
  · intro w'
    go_simp
    with_reducible rfl
  rotate_left
  · simp only [Act.put, List.setIfInBounds_toArray, List.set_cons_zero, List.set_cons_succ, i64_w, i32_w]
    rfl
  refine pure_ (i := 5) (N := some 30) (v := ?_) (a' := ?_) #[true, true, true, false, true, true, false, false, false, false] rfl rfl (by kernel_rfl) (fun _ _ _ h => h) (Or.inl ⟨by rfl, ?_⟩) ?_ ?_
  rotate_left
  · intro w'
    go_simp
    with_reducible rfl
  rotate_left
  · simp only [Act.put, List.setIfInBounds_toArray, List.set_cons_zero, List.set_cons_succ, i64_w, i32_w]
    rfl
  refine take_ (i := 3) (N := some 28) (v := ?_) (a' := ?_) #[true, true, true, true, true, true, false, false, false, false] rfl rfl (by kernel_rfl) (fun _ _ _ h => h) (Or.inl ⟨by rfl, ?_⟩) hHeld ?_ ?_
  rotate_left
  · rintro w' ⟨s0, s1, s2⟩
    go_simp
    with_reducible rfl
  rotate_left
  · simp only [Act.put, List.setIfInBounds_toArray, List.set_cons_zero, List.set_cons_succ, i64_w, i32_w]
    rfl
  refine take_ (i := 6) (N := some 31) (v := ?_) (a' := ?_) #[true, true, true, true, true, true, true, false, false, false] rfl rfl (by kernel_rfl) (fun _ _ _ h => h) (Or.inl ⟨by rfl, ?_⟩) hHeld ?_ ?_
  rotate_left
  · rintro w' ⟨s0, s1, s2⟩
    go_simp
    with_reducible rfl
  rotate_left
  · simp only [Act.put, List.setIfInBounds_toArray, List.set_cons_zero, List.set_cons_succ, i64_w, i32_w]
    rfl
  refine one_ (i := 7) (N := some 32) #[true, true, true, true, true, true, true, true, false, false] rfl rfl (by kernel_rfl) (by decide) (fun K hK => ?_)
  refine goes_ Tryd.func31 (by kernel_rfl) rfl #[.bool s0, .int .i64 m0] (by rfl) rfl rfl (by simp only [List.map_toArray, List.map_cons, List.map_nil]; rfl) ?_
  with_reducible refine (new_ex s0 m0 _).mono ?_
  rintro e Wp0c ⟨p0, rfl, hf, hge, hb⟩
  refine ⟨_, rfl, ?_⟩
  have T2 := Aside0.mk (hHeld.2.2.below hb)
  have HF := Aside0.mk hf
  have HGE : Aside0 (W0.heap.size ≤ p0) := ⟨hge⟩
  have HBB := Aside0.mk hb
  clear hf hge hb
  refine hK.out _ _ ⟨blk_cell T2.out.h3 0, blk_cell T2.out.h4 0, T2.out⟩ (fun hHeld => ?_)
  clear hK K
  refine norm_ (a' := ?_) ?_ ?_
  rotate_left
  · show Act.put _ (some 32) _ = _
    simp only [Act.put, List.setIfInBounds_toArray, List.set_cons_zero, List.set_cons_succ, i64_w, i32_w]
    rfl
  refine pure_ (i := 8) (N := some 33) (v := ?_) (a' := ?_) #[true, true, true, true, true, true, true, true, true, false] rfl rfl (by kernel_rfl) (fun _ _ _ h => h) (Or.inl ⟨by rfl, ?_⟩) ?_ ?_
  rotate_left
  · intro w'
    go_simp
    with_reducible rfl
  rotate_left
  · simp only [Act.put, List.setIfInBounds_toArray, List.set_cons_zero, List.set_cons_succ, i64_w, i32_w]
    rfl
  refine last_ (i := 9) (N := none) #[true, true, true, true, true, true, true, true, true, true] rfl rfl (by kernel_rfl) (by decide) (fun K hK => ?_)
  have y0 := blk_cell T2.out.la 0
  have y1 := blk_frozen T2.out.la 0
  refine skip_ (w1 := ?_) (by rfl) rfl ?_ ?_
  rotate_left
  · go_simp
    rfl
  clear y0 y1
  refine hK.out _ _ ?_
  clear hK K
  refine done_ (by kernel_rfl) ?_
  obtain ⟨Wp0, hW⟩ : ∃ W, World.setCell Wp0c ⟨al, 0, none⟩ (.pointer (some ⟨p0, 0, none⟩)) = W := ⟨_, rfl⟩
  have hne := T2.out.ne
  have hlt := blk_lt T1.out.ra
  have hge := HGE.out
  have T3 : Aside0 (TI w Wp0 b3 b4 al ar s0 s1 m0 m1 (.pointer (some ⟨p0, 0, none⟩)) (.pointer none) (.pointer none) (.pointer none)) := ⟨by rw [← hW]; exact T2.out.setl0 _⟩
  have Xp0 : Aside0 (FAt Wp0 p0 (newD s0 m0).fd) := ⟨by rw [← hW]; exact blk_far HF.out (show p0 ≠ al by omega) _⟩
  have Kp0 : Aside0 (Kp al ar W0 Wp0) := ⟨by rw [← hW]; exact Kp.step HBB.out (by omega)⟩
  have Np0 : Aside0 (W0.heap.size ≤ p0 ∧ p0 < Wp0.heap.size ∧ ar < W0.heap.size) := ⟨by rw [← hW, set_size]; exact ⟨hge, blk_lt HF.out, hlt⟩⟩
  rw [hW]
  clear hW hne hlt hge T1 T2 HF HGE HBB hHeld
  have T1 := T3
  clear T3
  go_upto_region 9 with fail
  refine start_ (n := 10) (S := fun w' => w'.cell? ⟨b3, 0, none⟩ = some (.bool s0) ∧ w'.cell? ⟨b4, 0, none⟩ = some (.int .i64 m0) ∧ TI w w' b3 b4 al ar s0 s1 m0 m1 (.pointer (some ⟨p0, 0, none⟩)) (.pointer none) (.pointer none) (.pointer none)) (ds := [9]) #[false, false, false, false, false, false, false, false, false, false] (by kernel_rfl) rfl rfl ⟨blk_cell (T1.out.below (below_drew (Below.refl _ _))).h3 0, blk_cell (T1.out.below (below_drew (Below.refl _ _))).h4 0, (T1.out.below (below_drew (Below.refl _ _)))⟩ (fun hHeld => ?_)
  refine pure_ (i := 0) (N := some 34) (v := ?_) (a' := ?_) #[true, false, false, false, false, false, false, false, false, false] rfl rfl (by kernel_rfl) (fun _ _ _ h => h) (Or.inl ⟨by rfl, ?_⟩) ?_ ?_
  rotate_left
  · intro w'
    go_simp
    with_reducible rfl
  rotate_left
  · simp only [Act.put, List.setIfInBounds_toArray, List.set_cons_zero, List.set_cons_succ, i64_w, i32_w]
    rfl
  refine pure_ (i := 1) (N := some 35) (v := ?_) (a' := ?_) #[true, true, false, false, false, false, false, false, false, false] rfl rfl (by kernel_rfl) (fun _ _ _ h => h) (Or.inl ⟨by rfl, ?_⟩) ?_ ?_
  rotate_left
  · intro w'
    go_simp
    with_reducible rfl
  rotate_left
  · simp only [Act.put, List.setIfInBounds_toArray, List.set_cons_zero, List.set_cons_succ, i64_w, i32_w]
    rfl
  refine pure_ (i := 2) (N := some 36) (v := ?_) (a' := ?_) #[true, true, true, false, false, false, false, false, false, false] rfl rfl (by kernel_rfl) (fun _ _ _ h => h) (Or.inl ⟨by rfl, ?_⟩) ?_ ?_
  rotate_left
  · intro w'
    go_simp
    with_reducible rfl
  rotate_left
  · simp only [Act.put, List.setIfInBounds_toArray, List.set_cons_zero, List.set_cons_succ, i64_w, i32_w]
    rfl
  refine pure_ (i := 4) (N := some 38) (v := ?_) (a' := ?_) #[true, true, true, false, true, false, false, false, false, false] rfl rfl (by kernel_rfl) (fun _ _ _ h => h) (Or.inl ⟨by rfl, ?_⟩) ?_ ?_
  rotate_left
  · intro w'
    go_simp
    with_reducible rfl
  rotate_left
  · simp only [Act.put, List.setIfInBounds_toArray, List.set_cons_zero, List.set_cons_succ, i64_w, i32_w]
    rfl
  refine pure_ (i := 5) (N := some 39) (v := ?_) (a' := ?_) #[true, true, true, false, true, true, false, false, false, false] rfl rfl (by kernel_rfl) (fun _ _ _ h => h) (Or.inl ⟨by rfl, ?_⟩) ?_ ?_
  rotate_left
  · intro w'
    go_simp
    with_reducible rfl
  rotate_left
  · simp only [Act.put, List.setIfInBounds_toArray, List.set_cons_zero, List.set_cons_succ, i64_w, i32_w]
    rfl
  refine take_ (i := 3) (N := some 37) (v := ?_) (a' := ?_) #[true, true, true, true, true, true, false, false, false, false] rfl rfl (by kernel_rfl) (fun _ _ _ h => h) (Or.inl ⟨by rfl, ?_⟩) hHeld ?_ ?_
  rotate_left
  · rintro w' ⟨s0, s1, s2⟩
    go_simp
    with_reducible rfl
  rotate_left
  · simp only [Act.put, List.setIfInBounds_toArray, List.set_cons_zero, List.set_cons_succ, i64_w, i32_w]
    rfl
  refine take_ (i := 6) (N := some 40) (v := ?_) (a' := ?_) #[true, true, true, true, true, true, true, false, false, false] rfl rfl (by kernel_rfl) (fun _ _ _ h => h) (Or.inl ⟨by rfl, ?_⟩) hHeld ?_ ?_
  rotate_left
  · rintro w' ⟨s0, s1, s2⟩
    go_simp
    with_reducible rfl
  rotate_left
  · simp only [Act.put, List.setIfInBounds_toArray, List.set_cons_zero, List.set_cons_succ, i64_w, i32_w]
    rfl
  refine one_ (i := 7) (N := some 41) #[true, true, true, true, true, true, true, true, false, false] rfl rfl (by kernel_rfl) (by decide) (fun K hK => ?_)
  refine goes_ Tryd.func37 (by kernel_rfl) rfl #[.bool s0, .int .i64 m0] (by rfl) rfl rfl (by simp only [List.map_toArray, List.map_cons, List.map_nil]; rfl) ?_
  with_reducible refine (new7_ex s0 m0 _).mono ?_
  rintro e Wq0c ⟨q0, rfl, hf, hge, hb⟩
  refine ⟨_, rfl, ?_⟩
  have T2 := Aside0.mk (hHeld.2.2.below hb)
  have HF := Aside0.mk hf
  have HGE : Aside0 (Wp0.heap.size ≤ q0) := ⟨hge⟩
  have HBB := Aside0.mk hb
  clear hf hge hb
  refine hK.out _ _ ⟨blk_cell T2.out.h3 0, blk_cell T2.out.h4 0, T2.out⟩ (fun hHeld => ?_)
  clear hK K
  refine norm_ (a' := ?_) ?_ ?_
  rotate_left
  · show Act.put _ (some 41) _ = _
    simp only [Act.put, List.setIfInBounds_toArray, List.set_cons_zero, List.set_cons_succ, i64_w, i32_w]
    rfl
  refine pure_ (i := 8) (N := some 42) (v := ?_) (a' := ?_) #[true, true, true, true, true, true, true, true, true, false] rfl rfl (by kernel_rfl) (fun _ _ _ h => h) (Or.inl ⟨by rfl, ?_⟩) ?_ ?_
  rotate_left
  · intro w'
    go_simp
    with_reducible rfl
  rotate_left
  · simp only [Act.put, List.setIfInBounds_toArray, List.set_cons_zero, List.set_cons_succ, i64_w, i32_w]
    rfl
  refine last_ (i := 9) (N := none) #[true, true, true, true, true, true, true, true, true, true] rfl rfl (by kernel_rfl) (by decide) (fun K hK => ?_)
  have y0 := blk_cell T2.out.ra 0
  have y1 := blk_frozen T2.out.ra 0
  refine skip_ (w1 := ?_) (by rfl) rfl ?_ ?_
  rotate_left
  · go_simp
    rfl
  clear y0 y1
  refine hK.out _ _ ?_
  clear hK K
  refine done_ (by kernel_rfl) ?_
  obtain ⟨Wq0, hW⟩ : ∃ W, World.setCell Wq0c ⟨ar, 0, none⟩ (.pointer (some ⟨q0, 0, none⟩)) = W := ⟨_, rfl⟩
  have hne := T2.out.ne
  have hlt := blk_lt T1.out.ra
  have hge := HGE.out
  have T3 : Aside0 (TI w Wq0 b3 b4 al ar s0 s1 m0 m1 (.pointer (some ⟨p0, 0, none⟩)) (.pointer none) (.pointer (some ⟨q0, 0, none⟩)) (.pointer none)) := ⟨by rw [← hW]; exact T2.out.setr0 _⟩
  have Xq0 : Aside0 (DAt Wq0 q0 (newD s0 m0)) := ⟨by rw [← hW]; exact blk_far HF.out (show q0 ≠ ar by omega) _⟩
  have Kq0 : Aside0 (Kp al ar Wp0 Wq0) := ⟨by rw [← hW]; exact Kp.step HBB.out (by omega)⟩
  have Nq0 : Aside0 (Wp0.heap.size ≤ q0 ∧ q0 < Wq0.heap.size ∧ ar < Wp0.heap.size) := ⟨by rw [← hW, set_size]; exact ⟨hge, blk_lt HF.out, hlt⟩⟩
  rw [hW]
  clear hW hne hlt hge T1 T2 HF HGE HBB hHeld
  have T1 := T3
  clear T3
  have zl := blk_cell T1.out.la 0
  go_upto_if 6 with fail
  clear zl
  rw [rounds_succ]
  go_upto_region 8 with fail
  refine start_ (n := 10) (S := fun w' => w'.cell? ⟨b3, 1, none⟩ = some (.bool s1) ∧ w'.cell? ⟨b4, 1, none⟩ = some (.int .i64 m1) ∧ TI w w' b3 b4 al ar s0 s1 m0 m1 (.pointer (some ⟨p0, 0, none⟩)) (.pointer none) (.pointer (some ⟨q0, 0, none⟩)) (.pointer none)) (ds := [9]) #[false, false, false, false, false, false, false, false, false, false] (by kernel_rfl) rfl rfl ⟨blk_cell (T1.out.below (below_drew (Below.refl _ _))).h3 1, blk_cell (T1.out.below (below_drew (Below.refl _ _))).h4 1, (T1.out.below (below_drew (Below.refl _ _)))⟩ (fun hHeld => ?_)
  refine pure_ (i := 0) (N := some 25) (v := ?_) (a' := ?_) #[true, false, false, false, false, false, false, false, false, false] rfl rfl (by kernel_rfl) (fun _ _ _ h => h) (Or.inl ⟨by rfl, ?_⟩) ?_ ?_
  rotate_left
  · intro w'
    go_simp
    with_reducible rfl
  rotate_left
  · simp only [Act.put, List.setIfInBounds_toArray, List.set_cons_zero, List.set_cons_succ, i64_w, i32_w]
    rfl
  refine pure_ (i := 1) (N := some 26) (v := ?_) (a' := ?_) #[true, true, false, false, false, false, false, false, false, false] rfl rfl (by kernel_rfl) (fun _ _ _ h => h) (Or.inl ⟨by rfl, ?_⟩) ?_ ?_
  rotate_left
  · intro w'
    go_simp
    with_reducible rfl
  rotate_left
  · simp only [Act.put, List.setIfInBounds_toArray, List.set_cons_zero, List.set_cons_succ, i64_w, i32_w]
    rfl
  refine pure_ (i := 2) (N := some 27) (v := ?_) (a' := ?_) #[true, true, true, false, false, false, false, false, false, false] rfl rfl (by kernel_rfl) (fun _ _ _ h => h) (Or.inl ⟨by rfl, ?_⟩) ?_ ?_
  rotate_left
  · intro w'
    go_simp
    with_reducible rfl
  rotate_left
  · simp only [Act.put, List.setIfInBounds_toArray, List.set_cons_zero, List.set_cons_succ, i64_w, i32_w]
    rfl
  refine pure_ (i := 4) (N := some 29) (v := ?_) (a' := ?_) #[true, true, true, false, true, false, false, false, false, false] rfl rfl (by kernel_rfl) (fun _ _ _ h => h) (Or.inl ⟨by rfl, ?_⟩) ?_ ?_
  rotate_left
  · intro w'
    go_simp
    with_reducible rfl
  rotate_left
  · simp only [Act.put, List.setIfInBounds_toArray, List.set_cons_zero, List.set_cons_succ, i64_w, i32_w]
    rfl
  refine pure_ (i := 5) (N := some 30) (v := ?_) (a' := ?_) #[true, true, true, false, true, true, false, false, false, false] rfl rfl (by kernel_rfl) (fun _ _ _ h => h) (Or.inl ⟨by rfl, ?_⟩) ?_ ?_
  rotate_left
  · intro w'
    go_simp
    with_reducible rfl
  rotate_left
  · simp only [Act.put, List.setIfInBounds_toArray, List.set_cons_zero, List.set_cons_succ, i64_w, i32_w]
    rfl
  refine take_ (i := 3) (N := some 28) (v := ?_) (a' := ?_) #[true, true, true, true, true, true, false, false, false, false] rfl rfl (by kernel_rfl) (fun _ _ _ h => h) (Or.inl ⟨by rfl, ?_⟩) hHeld ?_ ?_
  rotate_left
  · rintro w' ⟨s0, s1, s2⟩
    go_simp
    with_reducible rfl
  rotate_left
  · simp only [Act.put, List.setIfInBounds_toArray, List.set_cons_zero, List.set_cons_succ, i64_w, i32_w]
    rfl
  refine take_ (i := 6) (N := some 31) (v := ?_) (a' := ?_) #[true, true, true, true, true, true, true, false, false, false] rfl rfl (by kernel_rfl) (fun _ _ _ h => h) (Or.inl ⟨by rfl, ?_⟩) hHeld ?_ ?_
  rotate_left
  · rintro w' ⟨s0, s1, s2⟩
    go_simp
    with_reducible rfl
  rotate_left
  · simp only [Act.put, List.setIfInBounds_toArray, List.set_cons_zero, List.set_cons_succ, i64_w, i32_w]
    rfl
  refine one_ (i := 7) (N := some 32) #[true, true, true, true, true, true, true, true, false, false] rfl rfl (by kernel_rfl) (by decide) (fun K hK => ?_)
  refine goes_ Tryd.func31 (by kernel_rfl) rfl #[.bool s1, .int .i64 m1] (by rfl) rfl rfl (by simp only [List.map_toArray, List.map_cons, List.map_nil]; rfl) ?_
  with_reducible refine (new_ex s1 m1 _).mono ?_
  rintro e Wp1c ⟨p1, rfl, hf, hge, hb⟩
  refine ⟨_, rfl, ?_⟩
  have T2 := Aside0.mk (hHeld.2.2.below hb)
  have HF := Aside0.mk hf
  have HGE : Aside0 (Wq0.heap.size ≤ p1) := ⟨hge⟩
  have HBB := Aside0.mk hb
  clear hf hge hb
  refine hK.out _ _ ⟨blk_cell T2.out.h3 1, blk_cell T2.out.h4 1, T2.out⟩ (fun hHeld => ?_)
  clear hK K
  refine norm_ (a' := ?_) ?_ ?_
  rotate_left
  · show Act.put _ (some 32) _ = _
    simp only [Act.put, List.setIfInBounds_toArray, List.set_cons_zero, List.set_cons_succ, i64_w, i32_w]
    rfl
  refine pure_ (i := 8) (N := some 33) (v := ?_) (a' := ?_) #[true, true, true, true, true, true, true, true, true, false] rfl rfl (by kernel_rfl) (fun _ _ _ h => h) (Or.inl ⟨by rfl, ?_⟩) ?_ ?_
  rotate_left
  · intro w'
    go_simp
    with_reducible rfl
  rotate_left
  · simp only [Act.put, List.setIfInBounds_toArray, List.set_cons_zero, List.set_cons_succ, i64_w, i32_w]
    rfl
  refine last_ (i := 9) (N := none) #[true, true, true, true, true, true, true, true, true, true] rfl rfl (by kernel_rfl) (by decide) (fun K hK => ?_)
  have y0 := blk_cell T2.out.la 1
  have y1 := blk_frozen T2.out.la 1
  refine skip_ (w1 := ?_) (by rfl) rfl ?_ ?_
  rotate_left
  · go_simp
    rfl
  clear y0 y1
  refine hK.out _ _ ?_
  clear hK K
  refine done_ (by kernel_rfl) ?_
  obtain ⟨Wp1, hW⟩ : ∃ W, World.setCell Wp1c ⟨al, 1, none⟩ (.pointer (some ⟨p1, 0, none⟩)) = W := ⟨_, rfl⟩
  have hne := T2.out.ne
  have hlt := blk_lt T1.out.ra
  have hge := HGE.out
  have T3 : Aside0 (TI w Wp1 b3 b4 al ar s0 s1 m0 m1 (.pointer (some ⟨p0, 0, none⟩)) (.pointer (some ⟨p1, 0, none⟩)) (.pointer (some ⟨q0, 0, none⟩)) (.pointer none)) := ⟨by rw [← hW]; exact T2.out.setl1 _⟩
  have Xp1 : Aside0 (FAt Wp1 p1 (newD s1 m1).fd) := ⟨by rw [← hW]; exact blk_far HF.out (show p1 ≠ al by omega) _⟩
  have Kp1 : Aside0 (Kp al ar Wq0 Wp1) := ⟨by rw [← hW]; exact Kp.step HBB.out (by omega)⟩
  have Np1 : Aside0 (Wq0.heap.size ≤ p1 ∧ p1 < Wp1.heap.size ∧ ar < Wq0.heap.size) := ⟨by rw [← hW, set_size]; exact ⟨hge, blk_lt HF.out, hlt⟩⟩
  rw [hW]
  clear hW hne hlt hge T1 T2 HF HGE HBB hHeld
  have T1 := T3
  clear T3
  go_upto_region 9 with fail
  refine start_ (n := 10) (S := fun w' => w'.cell? ⟨b3, 1, none⟩ = some (.bool s1) ∧ w'.cell? ⟨b4, 1, none⟩ = some (.int .i64 m1) ∧ TI w w' b3 b4 al ar s0 s1 m0 m1 (.pointer (some ⟨p0, 0, none⟩)) (.pointer (some ⟨p1, 0, none⟩)) (.pointer (some ⟨q0, 0, none⟩)) (.pointer none)) (ds := [9]) #[false, false, false, false, false, false, false, false, false, false] (by kernel_rfl) rfl rfl ⟨blk_cell (T1.out.below (below_drew (Below.refl _ _))).h3 1, blk_cell (T1.out.below (below_drew (Below.refl _ _))).h4 1, (T1.out.below (below_drew (Below.refl _ _)))⟩ (fun hHeld => ?_)
  refine pure_ (i := 0) (N := some 34) (v := ?_) (a' := ?_) #[true, false, false, false, false, false, false, false, false, false] rfl rfl (by kernel_rfl) (fun _ _ _ h => h) (Or.inl ⟨by rfl, ?_⟩) ?_ ?_
  rotate_left
  · intro w'
    go_simp
    with_reducible rfl
  rotate_left
  · simp only [Act.put, List.setIfInBounds_toArray, List.set_cons_zero, List.set_cons_succ, i64_w, i32_w]
    rfl
  refine pure_ (i := 1) (N := some 35) (v := ?_) (a' := ?_) #[true, true, false, false, false, false, false, false, false, false] rfl rfl (by kernel_rfl) (fun _ _ _ h => h) (Or.inl ⟨by rfl, ?_⟩) ?_ ?_
  rotate_left
  · intro w'
    go_simp
    with_reducible rfl
  rotate_left
  · simp only [Act.put, List.setIfInBounds_toArray, List.set_cons_zero, List.set_cons_succ, i64_w, i32_w]
    rfl
  refine pure_ (i := 2) (N := some 36) (v := ?_) (a' := ?_) #[true, true, true, false, false, false, false, false, false, false] rfl rfl (by kernel_rfl) (fun _ _ _ h => h) (Or.inl ⟨by rfl, ?_⟩) ?_ ?_
  rotate_left
  · intro w'
    go_simp
    with_reducible rfl
  rotate_left
  · simp only [Act.put, List.setIfInBounds_toArray, List.set_cons_zero, List.set_cons_succ, i64_w, i32_w]
    rfl
  refine pure_ (i := 4) (N := some 38) (v := ?_) (a' := ?_) #[true, true, true, false, true, false, false, false, false, false] rfl rfl (by kernel_rfl) (fun _ _ _ h => h) (Or.inl ⟨by rfl, ?_⟩) ?_ ?_
  rotate_left
  · intro w'
    go_simp
    with_reducible rfl
  rotate_left
  · simp only [Act.put, List.setIfInBounds_toArray, List.set_cons_zero, List.set_cons_succ, i64_w, i32_w]
    rfl
  refine pure_ (i := 5) (N := some 39) (v := ?_) (a' := ?_) #[true, true, true, false, true, true, false, false, false, false] rfl rfl (by kernel_rfl) (fun _ _ _ h => h) (Or.inl ⟨by rfl, ?_⟩) ?_ ?_
  rotate_left
  · intro w'
    go_simp
    with_reducible rfl
  rotate_left
  · simp only [Act.put, List.setIfInBounds_toArray, List.set_cons_zero, List.set_cons_succ, i64_w, i32_w]
    rfl
  refine take_ (i := 3) (N := some 37) (v := ?_) (a' := ?_) #[true, true, true, true, true, true, false, false, false, false] rfl rfl (by kernel_rfl) (fun _ _ _ h => h) (Or.inl ⟨by rfl, ?_⟩) hHeld ?_ ?_
  rotate_left
  · rintro w' ⟨s0, s1, s2⟩
    go_simp
    with_reducible rfl
  rotate_left
  · simp only [Act.put, List.setIfInBounds_toArray, List.set_cons_zero, List.set_cons_succ, i64_w, i32_w]
    rfl
  refine take_ (i := 6) (N := some 40) (v := ?_) (a' := ?_) #[true, true, true, true, true, true, true, false, false, false] rfl rfl (by kernel_rfl) (fun _ _ _ h => h) (Or.inl ⟨by rfl, ?_⟩) hHeld ?_ ?_
  rotate_left
  · rintro w' ⟨s0, s1, s2⟩
    go_simp
    with_reducible rfl
  rotate_left
  · simp only [Act.put, List.setIfInBounds_toArray, List.set_cons_zero, List.set_cons_succ, i64_w, i32_w]
    rfl
  refine one_ (i := 7) (N := some 41) #[true, true, true, true, true, true, true, true, false, false] rfl rfl (by kernel_rfl) (by decide) (fun K hK => ?_)
  refine goes_ Tryd.func37 (by kernel_rfl) rfl #[.bool s1, .int .i64 m1] (by rfl) rfl rfl (by simp only [List.map_toArray, List.map_cons, List.map_nil]; rfl) ?_
  with_reducible refine (new7_ex s1 m1 _).mono ?_
  rintro e Wq1c ⟨q1, rfl, hf, hge, hb⟩
  refine ⟨_, rfl, ?_⟩
  have T2 := Aside0.mk (hHeld.2.2.below hb)
  have HF := Aside0.mk hf
  have HGE : Aside0 (Wp1.heap.size ≤ q1) := ⟨hge⟩
  have HBB := Aside0.mk hb
  clear hf hge hb
  refine hK.out _ _ ⟨blk_cell T2.out.h3 1, blk_cell T2.out.h4 1, T2.out⟩ (fun hHeld => ?_)
  clear hK K
  refine norm_ (a' := ?_) ?_ ?_
  rotate_left
  · show Act.put _ (some 41) _ = _
    simp only [Act.put, List.setIfInBounds_toArray, List.set_cons_zero, List.set_cons_succ, i64_w, i32_w]
    rfl
  refine pure_ (i := 8) (N := some 42) (v := ?_) (a' := ?_) #[true, true, true, true, true, true, true, true, true, false] rfl rfl (by kernel_rfl) (fun _ _ _ h => h) (Or.inl ⟨by rfl, ?_⟩) ?_ ?_
  rotate_left
  · intro w'
    go_simp
    with_reducible rfl
  rotate_left
  · simp only [Act.put, List.setIfInBounds_toArray, List.set_cons_zero, List.set_cons_succ, i64_w, i32_w]
    rfl
  refine last_ (i := 9) (N := none) #[true, true, true, true, true, true, true, true, true, true] rfl rfl (by kernel_rfl) (by decide) (fun K hK => ?_)
  have y0 := blk_cell T2.out.ra 1
  have y1 := blk_frozen T2.out.ra 1
  refine skip_ (w1 := ?_) (by rfl) rfl ?_ ?_
  rotate_left
  · go_simp
    rfl
  clear y0 y1
  refine hK.out _ _ ?_
  clear hK K
  refine done_ (by kernel_rfl) ?_
  obtain ⟨Wq1, hW⟩ : ∃ W, World.setCell Wq1c ⟨ar, 1, none⟩ (.pointer (some ⟨q1, 0, none⟩)) = W := ⟨_, rfl⟩
  have hne := T2.out.ne
  have hlt := blk_lt T1.out.ra
  have hge := HGE.out
  have T3 : Aside0 (TI w Wq1 b3 b4 al ar s0 s1 m0 m1 (.pointer (some ⟨p0, 0, none⟩)) (.pointer (some ⟨p1, 0, none⟩)) (.pointer (some ⟨q0, 0, none⟩)) (.pointer (some ⟨q1, 0, none⟩))) := ⟨by rw [← hW]; exact T2.out.setr1 _⟩
  have Xq1 : Aside0 (DAt Wq1 q1 (newD s1 m1)) := ⟨by rw [← hW]; exact blk_far HF.out (show q1 ≠ ar by omega) _⟩
  have Kq1 : Aside0 (Kp al ar Wp1 Wq1) := ⟨by rw [← hW]; exact Kp.step HBB.out (by omega)⟩
  have Nq1 : Aside0 (Wp1.heap.size ≤ q1 ∧ q1 < Wq1.heap.size ∧ ar < Wp1.heap.size) := ⟨by rw [← hW, set_size]; exact ⟨hge, blk_lt HF.out, hlt⟩⟩
  rw [hW]
  clear hW hne hlt hge T1 T2 HF HGE HBB hHeld
  have T1 := T3
  clear T3
  have zl := blk_cell T1.out.la 1
  go_upto_if 6 with fail
  clear zl
  rw [rounds_succ]
  go_upto_if 13 with fail
  have I1 := Aside0.mk (pi_of T1.out Xp0.out Xq0.out Xp1.out Xq1.out Kq0.out Kp1.out Kq1.out ⟨by have := Np0.out; omega, Np0.out.2.1⟩ ⟨Nq0.out.1, Nq0.out.2.1⟩ ⟨Np1.out.1, Np1.out.2.1⟩ ⟨Nq1.out.1, Nq1.out.2.1⟩ (W0 := W0))
  have HO0 := Aside0.mk (new_ok s0 m0)
  have HO1 := Aside0.mk (new_ok s1 m1)
  have HE : Aside0 ((newD s0 m0).b.size = 0 ∧ (newD s1 m1).b.size = 0) := ⟨rfl, rfl⟩
  clear T1 Xp0 Xq0 Xp1 Xq1 Kp0 Kq0 Kp1 Kq1 Np0 Nq0 Np1 Nq1
  go_loopw [10] (fun v w' => ∃ (i : Nat) (d0 d1 : Dc), v = .int .i64 (i : Int) ∧ Aside0 (i ≤ l.length) ∧ Aside0 (PI w w' al ar p0 q0 p1 q1 d0.fd d1.fd d0 d1) ∧ Aside0 (d0.Ok ∧ d1.Ok ∧ d0.b.size ≤ i * 2097152 ∧ d1.b.size ≤ i * 2097152)) (fun v _ => ((l.length : Int) - intOf v).toNat)
  case atStart => exact ⟨0, _, _, rfl, ⟨Nat.zero_le _⟩, I1, ⟨HO0.out, HO1.out, by rw [HE.out.1]; omega, by rw [HE.out.2]; omega⟩⟩
  case round =>
    clear I1 HO0 HO1 HE
    obtain ⟨i, d0, d1, rfl, HI, I1, HZ⟩ := hrel
    by_cases hil : i < l.length
    · have t1 : decide ((i : Int) < (l.length : Int)) = true := decide_eq_true (by omega)
      have t2 : decide (i < l.length) = true := decide_eq_true hil
      obtain ⟨m, hm⟩ : ∃ m, i + 1 = m := ⟨_, rfl⟩
      have hw1 : wrap64 ((i : Int) + 1) = (m : Int) := by have := HL.out; unfold wrap64; omega
      have HM : Aside0 (i < l.length ∧ i + 1 = m) := ⟨hil, hm⟩
      have p0_ : (0 : Int) ≤ (i : Int) := by omega
      have p1_ : (i : Int) < (l.length : Int) := by omega
      obtain ⟨x, hx⟩ : ∃ x, rd_T71 l (i : Int) = x := ⟨_, rfl⟩
      have HXX := Aside0.mk hx
      have HX : Aside0 (x.f2.size ≤ 1048576 ∧ x.f3 ≤ 9223372036854775807) := ⟨by
        have hmem : x ∈ l := by
          rw [← hx]
          unfold rd_T71
          rw [Int.toNat_natCast, List.getD_eq_getElem?_getD, List.getElem?_eq_getElem hil]
          exact List.getElem_mem hil
        exact ⟨HT.out x hmem, H3.out x hmem⟩⟩
      obtain ⟨ad, hA, x0, x1, x2, x3, x4⟩ := at_T71 (Kd.C_below HR.out I1.out.low) (i : Int) p0_ p1_
      rw [Int.toNat_natCast, hx] at x0 x1 x2 x3 x4
      have hAD := Aside0.mk hA
      subst hA
      clear hx hm hil
      cases hf1 : x.f1
      · have xf : x.f1 = false := hf1
        rw [xf] at x1
        clear hf1 xf
        by_cases hk : x.f0 = 1
        · have k1 : (x.f0 == 1) = true := by rw [hk]; rfl
          have k2 : (x.f0 == 2) = false := by rw [hk]; rfl
          have k3 : (x.f0 == 3) = false := by rw [hk]; rfl
          clear hk
          have z := blk_cell I1.out.la 0
          have z9 := blk_cell I1.out.ra 0
          go_upto_region 21 with (go_at_call 38; refine (text7_calls (⟨x.f0, false, x.f2, x.f3, x.f4⟩ : S71) _ (show x.f2.size ≤ _ by have := HX.out; omega) HX.out.2).mono ?_; rintro e ws hsome; obtain ⟨s, rfl, hsz, hb⟩ := hsome; have HSS := Aside0.mk hsz; have I2 := Aside0.mk (I1.out.below hb); clear hb hsz)
          clear x0 x1 x2 x3 x4 k1 z z9
          have HPS := Aside0.mk (push_same d0 s HZ.out.1)
          have HSZ : Aside0 (d0.b.size + s.size ≤ 9223372036854775807) := ⟨by have := HZ.out; have := HSS.out; have := HX.out; have := HM.out; have := HL.out; omega⟩
          have z := blk_cell I2.out.la 0
          go_upto_region 22 with (go_at_call 32; refine (push_calls p0 d0.fd s _ I2.out.f0 HSZ.out).mono ?_; rintro e w3 ⟨rfl, hf, hc⟩; rw [HPS.out.1] at hf; have I3 := Aside0.mk (I2.out.putP0 hf hc); clear hf hc)
          clear z
          have z := blk_cell I3.out.ra 0
          go_upto_region 31 with (go_at_call 39; refine (push7_calls q0 d0 s _ I3.out.g0 HSZ.out).mono ?_; rintro e w4 ⟨rfl, hf, hc⟩; have I4 := Aside0.mk (I3.out.putQ0 hf hc); clear hf hc)
          clear z
          obtain ⟨dn, hdn⟩ : ∃ q, pushR d0 s = q := ⟨_, rfl⟩
          rw [hdn] at I4 HPS
          clear hdn
          have c0 := blk_cell I4.out.la 0
          have c1 := blk_cell I4.out.la 1
          have e0 := blk_cell I4.out.ra 0
          have e1 := blk_cell I4.out.ra 1
          have b0 : (((dn).b.size : Int) != ((dn).b.size : Int)) = false := by simp
          go_upto_region 31 with fail
          go_quiet ((first
            | (go_at_call 35; with_reducible exact Calls.quiet_of_same (waitq_at I4.out.f0 _))
            | (go_at_call 35; with_reducible exact Calls.quiet_of_same (waitq_at I4.out.f1 _))
            | (go_at_call 44; with_reducible exact Calls.quiet_of_same (waitq7_at I4.out.g0 _))
            | (go_at_call 44; with_reducible exact Calls.quiet_of_same (waitq7_at I4.out.g1 _))))
          have IE := Aside0.mk (I4.out.below (pw_below_drewN (Below.refl _ _) nq))
          clear c0 c1 e0 e1 b0
          go_wp2_with fail
          go_roundw
          case rel => exact ⟨m, dn, d1, congrArg (Value.int .i64) hw1, ⟨by have := HM.out; omega⟩, IE, ⟨HPS.out.2.1, HZ.out.2.1, by have := HM.out; have := HZ.out; have := HPS.out.2.2; have := HSS.out; have := HX.out; exact ⟨by omega, by omega⟩⟩⟩
          case measure =>
            rw [hw1]
            show ((l.length : Int) - (m : Int)).toNat < ((l.length : Int) - (i : Int)).toNat
            have := HM.out
            omega

        · by_cases hk2 : x.f0 = 2
          · replace hk := hk2; clear hk2
            have k1 : (x.f0 == 1) = false := by rw [hk]; rfl
            have k2 : (x.f0 == 2) = true := by rw [hk]; rfl
            have k3 : (x.f0 == 3) = false := by rw [hk]; rfl
            clear hk
            obtain ⟨D, N, hDN⟩ : ∃ D N, nextD d0 = (D, N) := ⟨_, _, rfl⟩
            have HDN := Aside0.mk hDN
            have HNS : Aside0 (nextF d0.fd = (D.fd, N) ∧ D.Ok) := ⟨by have h := next_same d0 HZ.out.1; rw [hDN] at h; exact h⟩
            have HNZ : Aside0 (D.b.size ≤ d0.b.size) := ⟨by have h := nextD_size d0; rw [hDN] at h; exact h⟩
            clear hDN
            have z := blk_cell I1.out.la 0
            have HSZ : Aside0 (d0.b.size ≤ 9223372036854775807) := ⟨by have := HZ.out; have := HM.out; have := HL.out; omega⟩
            go_upto_region 25 with (go_at_call 36; refine (next_calls p0 d0.fd _ (HG.out.below I1.out.low) I1.out.f0 HSZ.out (fd_pf _)).mono ?_; rintro e w3 hnx; rw [HNS.out.1] at hnx; obtain ⟨A1, c1, rfl, hr, hf, hc⟩ := nx_open hnx; have I2 := Aside0.mk (I1.out.putP0 hf hc); have R2 := Aside0.mk hr; clear hf hc hr; unfold Fr.cells)
            clear z x0 x1 x2 x3 x4
            obtain ⟨W3, hW⟩ : ∃ W, (w3.alloc (.cells #[.int .i64 N.fr.ty, .int .i64 N.fr.fl, .int .i64 N.fr.st, .string N.fr.da, .int .i64 N.fr.pad, .int .i64 N.fr.dep, .bool N.fr.ex, .int .i64 N.fr.wt, .int .i64 N.fr.co, .int .i64 N.fr.la, .slice A1 N.fr.ps.length c1] 24)).alloc (.cells #[.int .i64 N.code, .int .i64 N.st] 35) = W := ⟨_, rfl⟩
            obtain ⟨xa, hxa⟩ : ∃ g, w3.heap.size = g := ⟨_, rfl⟩
            obtain ⟨ya, hya⟩ : ∃ g, xa + 1 = g := ⟨_, rfl⟩
            have hb : Below w3.heap.size w3 W3 := by rw [← hW]; exact below_alloc (below_alloc (Below.refl _ _) _) _
            have I3 := Aside0.mk (I2.out.below hb)
            have R3 := Aside0.mk (Kd.R_below R2.out hb)
            have XA : Aside0 (At W3 xa N.fr A1 c1) := ⟨by rw [← hW, ← hxa]; exact heap_alloc2_old _ _ _⟩
            have YA : Aside0 (W3.heap[ya]? = some (.cells #[.int .i64 N.code, .int .i64 N.st] 35 (0, 0))) := ⟨by rw [← hW, ← hya, ← hxa]; exact heap_alloc2_new _ _ _⟩
            rw [hW, hxa, hya]
            clear hW hxa hya hb I2 R2
            have z := blk_cell I3.out.ra 0
            go_upto_region 26 with (go_at_call 40; refine (next7_calls q0 d0 _ I3.out.g0 HSZ.out).mono ?_; rintro e w4 hnx; rw [HDN.out] at hnx; obtain ⟨A2, c2, rfl, hr, hf, hc⟩ := ny_open hnx; have I4 := Aside0.mk (I3.out.putQ0 hf hc); have R4 := Aside0.mk hr; have HC4 := Aside0.mk hc; clear hf hc hr; unfold Fr.cells)
            clear z
            obtain ⟨W5, hW⟩ : ∃ W, (w4.alloc (.cells #[.int .i64 N.fr.ty, .int .i64 N.fr.fl, .int .i64 N.fr.st, .string N.fr.da, .int .i64 N.fr.pad, .int .i64 N.fr.dep, .bool N.fr.ex, .int .i64 N.fr.wt, .int .i64 N.fr.co, .int .i64 N.fr.la, .slice A2 N.fr.ps.length c2] 24)).alloc (.cells #[.int .i64 N.code, .int .i64 N.st] 35) = W := ⟨_, rfl⟩
            obtain ⟨xb, hxb⟩ : ∃ g, w4.heap.size = g := ⟨_, rfl⟩
            obtain ⟨yb, hyb⟩ : ∃ g, xb + 1 = g := ⟨_, rfl⟩
            have hb : Below w4.heap.size w4 W5 := by rw [← hW]; exact below_alloc (below_alloc (Below.refl _ _) _) _
            have hne := I3.out.ne
            have I5 := Aside0.mk (I4.out.below hb)
            have R5 := Aside0.mk (Kd.R_below R4.out hb)
            have XB : Aside0 (At W5 xb N.fr A2 c2) := ⟨by rw [← hW, ← hxb]; exact heap_alloc2_old _ _ _⟩
            have YB : Aside0 (W5.heap[yb]? = some (.cells #[.int .i64 N.code, .int .i64 N.st] 35 (0, 0))) := ⟨by rw [← hW, ← hyb, ← hxb]; exact heap_alloc2_new _ _ _⟩
            have hq := I3.out.g0
            have XA5 : Aside0 (At W5 xa N.fr A1 c1) := ⟨At.low (HC4.out.blk XA.out (blk_ne XA.out hq (by decide))) hb⟩
            have YA5 : Aside0 (W5.heap[ya]? = some (.cells #[.int .i64 N.code, .int .i64 N.st] 35 (0, 0))) := ⟨blk_below (HC4.out.blk YA.out (blk_ne YA.out hq (by decide))) hb⟩
            have CA := Aside0.mk (row_parts (Kd.R_below (row_chg R3.out hq HC4.out) hb))
            have CB := Aside0.mk (row_parts R5.out)
            rw [hW, hxb, hyb]
            clear hW hxb hyb hb hne hq I3 I4 R3 R4 HC4 XA YA
            have z0 := blk_cell YA5.out 0
            have z1 := blk_cell YA5.out 1
            have z2 := blk_cell YB.out 0
            have z3 := blk_cell YB.out 1
            go_upto_region 31 with (first
              | (refine load_rowG7 (by rfl) 24 _ rfl xa rfl 24 #[.int .i64 N.fr.ty, .int .i64 N.fr.fl, .int .i64 N.fr.st, .string N.fr.da, .int .i64 N.fr.pad, .int .i64 N.fr.dep, .bool N.fr.ex, .int .i64 N.fr.wt, .int .i64 N.fr.co, .int .i64 N.fr.la, .slice A1 N.fr.ps.length c1] (0, 0) _ XA5.out Tryd.underlying24 (by rfl) (by kernel_rfl) ?_)
              | (refine load_rowG7 (by rfl) 24 _ rfl xb rfl 24 #[.int .i64 N.fr.ty, .int .i64 N.fr.fl, .int .i64 N.fr.st, .string N.fr.da, .int .i64 N.fr.pad, .int .i64 N.fr.dep, .bool N.fr.ex, .int .i64 N.fr.wt, .int .i64 N.fr.co, .int .i64 N.fr.la, .slice A2 N.fr.ps.length c2] (0, 0) _ XB.out Tryd.underlying24 (by rfl) (by kernel_rfl) ?_)
              | (go_at_call 41; refine (same7_calls N.fr A1 A2 c1 c2 _ CA.out.2.2 CA.out.2.1 CA.out.1 CB.out.2.1 CB.out.1).mono ?_; rintro e w6 ⟨rfl, hb⟩; have I6 := Aside0.mk (I5.out.below hb); clear hb))
            clear z0 z1 z2 z3
            have c0 := blk_cell I6.out.la 0
            have c1 := blk_cell I6.out.la 1
            have e0 := blk_cell I6.out.ra 0
            have e1 := blk_cell I6.out.ra 1
            have b0 : (((D).b.size : Int) != ((D).b.size : Int)) = false := by simp
            go_upto_region 31 with fail
            go_quiet ((first
              | (go_at_call 35; with_reducible exact Calls.quiet_of_same (waitq_at I6.out.f0 _))
              | (go_at_call 35; with_reducible exact Calls.quiet_of_same (waitq_at I6.out.f1 _))
              | (go_at_call 44; with_reducible exact Calls.quiet_of_same (waitq7_at I6.out.g0 _))
              | (go_at_call 44; with_reducible exact Calls.quiet_of_same (waitq7_at I6.out.g1 _))))
            have IE := Aside0.mk (I6.out.below (pw_below_drewN (Below.refl _ _) nq))
            clear c0 c1 e0 e1 b0
            go_wp2_with fail
            go_roundw
            case rel => exact ⟨m, D, d1, congrArg (Value.int .i64) hw1, ⟨by have := HM.out; omega⟩, IE, ⟨HNS.out.2, HZ.out.2.1, by have := HM.out; have := HZ.out; have := HNZ.out; exact ⟨by omega, by omega⟩⟩⟩
            case measure =>
              rw [hw1]
              show ((l.length : Int) - (m : Int)).toNat < ((l.length : Int) - (i : Int)).toNat
              have := HM.out
              omega

          · by_cases hk3 : x.f0 = 3
            · replace hk := hk3; clear hk2 hk3
              have k1 : (x.f0 == 1) = false := by rw [hk]; rfl
              have k2 : (x.f0 == 2) = false := by rw [hk]; rfl
              have k3 : (x.f0 == 3) = true := by rw [hk]; rfl
              clear hk
              go_upto_region 29 with fail
              refine start_ (n := 9) (S := fun w' => w'.cell? ⟨al, 0, none⟩ = some (.pointer (some ⟨p0, 0, none⟩)) ∧ w'.cell? ⟨(ad.add (i * 5)).block, (ad.add (i * 5)).off + 4, none⟩ = some (.int .i64 x.f4) ∧ PI w w' al ar p0 q0 p1 q1 d0.fd d1.fd d0 d1) (ds := [8]) #[false, false, false, false, false, false, false, false, false] (by kernel_rfl) rfl rfl ⟨blk_cell (I1.out.below (below_drew (Below.refl _ _))).la 0, x4, (I1.out.below (below_drew (Below.refl _ _)))⟩ (fun hHeld => ?_)
              refine pure_ (i := 0) (N := some 114) (v := ?_) (a' := ?_) #[true, false, false, false, false, false, false, false, false] rfl rfl (by kernel_rfl) (fun _ _ _ h => h) (Or.inl ⟨by rfl, ?_⟩) ?_ ?_
              rotate_left
              · intro w'
                go_simp
                with_reducible rfl
              rotate_left
              · simp only [Act.put, List.setIfInBounds_toArray, List.set_cons_zero, List.set_cons_succ, i64_w, i32_w]
                rfl
              refine pure_ (i := 1) (N := some 115) (v := ?_) (a' := ?_) #[true, true, false, false, false, false, false, false, false] rfl rfl (by kernel_rfl) (fun _ _ _ h => h) (Or.inl ⟨by rfl, ?_⟩) ?_ ?_
              rotate_left
              · intro w'
                go_simp
                with_reducible rfl
              rotate_left
              · simp only [Act.put, List.setIfInBounds_toArray, List.set_cons_zero, List.set_cons_succ, i64_w, i32_w]
                rfl
              refine pure_ (i := 3) (N := some 117) (v := ?_) (a' := ?_) #[true, true, false, true, false, false, false, false, false] rfl rfl (by kernel_rfl) (fun _ _ _ h => h) (Or.inl ⟨by rfl, ?_⟩) ?_ ?_
              rotate_left
              · intro w'
                go_simp
                with_reducible rfl
              rotate_left
              · simp only [Act.put, List.setIfInBounds_toArray, List.set_cons_zero, List.set_cons_succ, i64_w, i32_w]
                rfl
              refine pure_ (i := 4) (N := some 118) (v := ?_) (a' := ?_) #[true, true, false, true, true, false, false, false, false] rfl rfl (by kernel_rfl) (fun _ _ _ h => h) (Or.inl ⟨by rfl, ?_⟩) ?_ ?_
              rotate_left
              · intro w'
                go_simp
                with_reducible rfl
              rotate_left
              · simp only [Act.put, List.setIfInBounds_toArray, List.set_cons_zero, List.set_cons_succ, i64_w, i32_w]
                rfl
              refine pure_ (i := 5) (N := some 119) (v := ?_) (a' := ?_) #[true, true, false, true, true, true, false, false, false] rfl rfl (by kernel_rfl) (fun _ _ _ h => h) (Or.inl ⟨by rfl, ?_⟩) ?_ ?_
              rotate_left
              · intro w'
                go_simp
                with_reducible rfl
              rotate_left
              · simp only [Act.put, List.setIfInBounds_toArray, List.set_cons_zero, List.set_cons_succ, i64_w, i32_w]
                rfl
              refine pure_ (i := 6) (N := some 120) (v := ?_) (a' := ?_) #[true, true, false, true, true, true, true, false, false] rfl rfl (by kernel_rfl) (fun _ _ _ h => h) (Or.inl ⟨by rfl, ?_⟩) ?_ ?_
              rotate_left
              · intro w'
                go_simp
                with_reducible rfl
              rotate_left
              · simp only [Act.put, List.setIfInBounds_toArray, List.set_cons_zero, List.set_cons_succ, i64_w, i32_w]
                rfl
              refine take_ (i := 2) (N := some 116) (v := ?_) (a' := ?_) #[true, true, true, true, true, true, true, false, false] rfl rfl (by kernel_rfl) (fun _ _ _ h => h) (Or.inl ⟨by rfl, ?_⟩) hHeld ?_ ?_
              rotate_left
              · rintro w' ⟨s0, s1, s2⟩
                go_simp
                with_reducible rfl
              rotate_left
              · simp only [Act.put, List.setIfInBounds_toArray, List.set_cons_zero, List.set_cons_succ, i64_w, i32_w]
                rfl
              refine take_ (i := 7) (N := some 121) (v := ?_) (a' := ?_) #[true, true, true, true, true, true, true, true, false] rfl rfl (by kernel_rfl) (fun _ _ _ h => h) (Or.inl ⟨by rfl, ?_⟩) hHeld ?_ ?_
              rotate_left
              · rintro w' ⟨s0, s1, s2⟩
                go_simp
                with_reducible rfl
              rotate_left
              · simp only [Act.put, List.setIfInBounds_toArray, List.set_cons_zero, List.set_cons_succ, i64_w, i32_w]
                rfl
              refine last_ (i := 8) (N := some 122) #[true, true, true, true, true, true, true, true, true] rfl rfl (by kernel_rfl) (by decide) (fun K hK => ?_)
              refine goes_ Tryd.func42 (by kernel_rfl) rfl #[.pointer (some ⟨p0, 0, none⟩), .int .i64 x.f4] (by rfl) rfl rfl (by simp only [List.map_toArray, List.map_cons, List.map_nil]; rfl) ?_
              with_reducible refine (setMost_calls p0 d0.fd x.f4 _ hHeld.2.2.f0).mono ?_
              rintro e w29 ⟨rfl, hf, hc⟩
              refine ⟨_, rfl, ?_⟩
              have I2 : Aside0 (PI w w29 al ar p0 q0 p1 q1 ({ d0 with most := x.f4 } : Dc).fd d1.fd d0 d1) := ⟨hHeld.2.2.putP0 hf hc⟩
              clear hf hc
              refine hK.out _ _ ?_
              clear hK K
              refine norm_ (a' := ?_) ?_ ?_
              rotate_left
              · show Act.put _ (some 122) _ = _
                simp only [Act.put, List.setIfInBounds_toArray, List.set_cons_zero, List.set_cons_succ, i64_w, i32_w]
                rfl
              refine done_ (by kernel_rfl) ?_
              clear hHeld x0 x1 x2 x3 x4
              obtain ⟨ad2, hA2, x0, x1, x2, x3, x4⟩ := at_T71 (Kd.C_below HR.out I2.out.low) (i : Int) p0_ p1_
              rw [hAD.out] at hA2
              obtain rfl := Option.some.inj hA2
              rw [Int.toNat_natCast, HXX.out] at x0 x1 x2 x3 x4
              go_upto_region 30 with fail
              refine start_ (n := 9) (S := fun w' => w'.cell? ⟨ar, 0, none⟩ = some (.pointer (some ⟨q0, 0, none⟩)) ∧ w'.cell? ⟨(ad.add (i * 5)).block, (ad.add (i * 5)).off + 4, none⟩ = some (.int .i64 x.f4) ∧ PI w w' al ar p0 q0 p1 q1 ({ d0 with most := x.f4 } : Dc).fd d1.fd d0 d1) (ds := [8]) #[false, false, false, false, false, false, false, false, false] (by kernel_rfl) rfl rfl ⟨blk_cell (I2.out.below (below_drew (Below.refl _ _))).ra 0, x4, (I2.out.below (below_drew (Below.refl _ _)))⟩ (fun hHeld => ?_)
              refine pure_ (i := 0) (N := some 123) (v := ?_) (a' := ?_) #[true, false, false, false, false, false, false, false, false] rfl rfl (by kernel_rfl) (fun _ _ _ h => h) (Or.inl ⟨by rfl, ?_⟩) ?_ ?_
              rotate_left
              · intro w'
                go_simp
                with_reducible rfl
              rotate_left
              · simp only [Act.put, List.setIfInBounds_toArray, List.set_cons_zero, List.set_cons_succ, i64_w, i32_w]
                rfl
              refine pure_ (i := 1) (N := some 124) (v := ?_) (a' := ?_) #[true, true, false, false, false, false, false, false, false] rfl rfl (by kernel_rfl) (fun _ _ _ h => h) (Or.inl ⟨by rfl, ?_⟩) ?_ ?_
              rotate_left
              · intro w'
                go_simp
                with_reducible rfl
              rotate_left
              · simp only [Act.put, List.setIfInBounds_toArray, List.set_cons_zero, List.set_cons_succ, i64_w, i32_w]
                rfl
              refine pure_ (i := 3) (N := some 126) (v := ?_) (a' := ?_) #[true, true, false, true, false, false, false, false, false] rfl rfl (by kernel_rfl) (fun _ _ _ h => h) (Or.inl ⟨by rfl, ?_⟩) ?_ ?_
              rotate_left
              · intro w'
                go_simp
                with_reducible rfl
              rotate_left
              · simp only [Act.put, List.setIfInBounds_toArray, List.set_cons_zero, List.set_cons_succ, i64_w, i32_w]
                rfl
              refine pure_ (i := 4) (N := some 127) (v := ?_) (a' := ?_) #[true, true, false, true, true, false, false, false, false] rfl rfl (by kernel_rfl) (fun _ _ _ h => h) (Or.inl ⟨by rfl, ?_⟩) ?_ ?_
              rotate_left
              · intro w'
                go_simp
                with_reducible rfl
              rotate_left
              · simp only [Act.put, List.setIfInBounds_toArray, List.set_cons_zero, List.set_cons_succ, i64_w, i32_w]
                rfl
              refine pure_ (i := 5) (N := some 128) (v := ?_) (a' := ?_) #[true, true, false, true, true, true, false, false, false] rfl rfl (by kernel_rfl) (fun _ _ _ h => h) (Or.inl ⟨by rfl, ?_⟩) ?_ ?_
              rotate_left
              · intro w'
                go_simp
                with_reducible rfl
              rotate_left
              · simp only [Act.put, List.setIfInBounds_toArray, List.set_cons_zero, List.set_cons_succ, i64_w, i32_w]
                rfl
              refine pure_ (i := 6) (N := some 129) (v := ?_) (a' := ?_) #[true, true, false, true, true, true, true, false, false] rfl rfl (by kernel_rfl) (fun _ _ _ h => h) (Or.inl ⟨by rfl, ?_⟩) ?_ ?_
              rotate_left
              · intro w'
                go_simp
                with_reducible rfl
              rotate_left
              · simp only [Act.put, List.setIfInBounds_toArray, List.set_cons_zero, List.set_cons_succ, i64_w, i32_w]
                rfl
              refine take_ (i := 2) (N := some 125) (v := ?_) (a' := ?_) #[true, true, true, true, true, true, true, false, false] rfl rfl (by kernel_rfl) (fun _ _ _ h => h) (Or.inl ⟨by rfl, ?_⟩) hHeld ?_ ?_
              rotate_left
              · rintro w' ⟨s0, s1, s2⟩
                go_simp
                with_reducible rfl
              rotate_left
              · simp only [Act.put, List.setIfInBounds_toArray, List.set_cons_zero, List.set_cons_succ, i64_w, i32_w]
                rfl
              refine take_ (i := 7) (N := some 130) (v := ?_) (a' := ?_) #[true, true, true, true, true, true, true, true, false] rfl rfl (by kernel_rfl) (fun _ _ _ h => h) (Or.inl ⟨by rfl, ?_⟩) hHeld ?_ ?_
              rotate_left
              · rintro w' ⟨s0, s1, s2⟩
                go_simp
                with_reducible rfl
              rotate_left
              · simp only [Act.put, List.setIfInBounds_toArray, List.set_cons_zero, List.set_cons_succ, i64_w, i32_w]
                rfl
              refine last_ (i := 8) (N := some 131) #[true, true, true, true, true, true, true, true, true] rfl rfl (by kernel_rfl) (by decide) (fun K hK => ?_)
              refine goes_ Tryd.func43 (by kernel_rfl) rfl #[.pointer (some ⟨q0, 0, none⟩), .int .i64 x.f4] (by rfl) rfl rfl (by simp only [List.map_toArray, List.map_cons, List.map_nil]; rfl) ?_
              with_reducible refine (setMost7_calls q0 d0 x.f4 _ hHeld.2.2.g0).mono ?_
              rintro e w30 ⟨rfl, hf, hc⟩
              refine ⟨_, rfl, ?_⟩
              have I3 := Aside0.mk (hHeld.2.2.putQ0 hf hc)
              clear hf hc
              refine hK.out _ _ ?_
              clear hK K
              refine norm_ (a' := ?_) ?_ ?_
              rotate_left
              · show Act.put _ (some 131) _ = _
                simp only [Act.put, List.setIfInBounds_toArray, List.set_cons_zero, List.set_cons_succ, i64_w, i32_w]
                rfl
              refine done_ (by kernel_rfl) ?_
              clear hHeld x0 x1 x2 x3 x4 hA2
              obtain ⟨dn, hdn⟩ : ∃ q : Dc, { d0 with most := x.f4 } = q := ⟨_, rfl⟩
              have HPS : Aside0 (dn.Ok ∧ dn.b.size = d0.b.size) := ⟨by rw [← hdn]; exact ⟨HZ.out.1, rfl⟩⟩
              rw [hdn] at I3
              clear hdn
              have c0 := blk_cell I3.out.la 0
              have c1 := blk_cell I3.out.la 1
              have e0 := blk_cell I3.out.ra 0
              have e1 := blk_cell I3.out.ra 1
              have b0 : (((dn).b.size : Int) != ((dn).b.size : Int)) = false := by simp
              go_upto_region 31 with fail
              go_quiet ((first
                | (go_at_call 35; with_reducible exact Calls.quiet_of_same (waitq_at I3.out.f0 _))
                | (go_at_call 35; with_reducible exact Calls.quiet_of_same (waitq_at I3.out.f1 _))
                | (go_at_call 44; with_reducible exact Calls.quiet_of_same (waitq7_at I3.out.g0 _))
                | (go_at_call 44; with_reducible exact Calls.quiet_of_same (waitq7_at I3.out.g1 _))))
              have IE := Aside0.mk (I3.out.below (pw_below_drewN (Below.refl _ _) nq))
              clear c0 c1 e0 e1 b0
              go_wp2_with fail
              go_roundw
              case rel => exact ⟨m, dn, d1, congrArg (Value.int .i64) hw1, ⟨by have := HM.out; omega⟩, IE, ⟨HPS.out.1, HZ.out.2.1, by have := HM.out; have := HZ.out; have := HPS.out.2; exact ⟨by omega, by omega⟩⟩⟩
              case measure =>
                rw [hw1]
                show ((l.length : Int) - (m : Int)).toNat < ((l.length : Int) - (i : Int)).toNat
                have := HM.out
                omega

            · replace hk := And.intro hk (And.intro hk2 hk3); clear hk2 hk3
              have k1 : (x.f0 == 1) = false := beq_eq_false_iff_ne.mpr (by omega)
              have k2 : (x.f0 == 2) = false := beq_eq_false_iff_ne.mpr (by omega)
              have k3 : (x.f0 == 3) = false := beq_eq_false_iff_ne.mpr (by omega)
              clear hk
              go_upto_region 31 with fail
              clear x0 x1 x2 x3 x4 k1 k2 k3
              have c0 := blk_cell I1.out.la 0
              have c1 := blk_cell I1.out.la 1
              have e0 := blk_cell I1.out.ra 0
              have e1 := blk_cell I1.out.ra 1
              have b0 : (((d0).b.size : Int) != ((d0).b.size : Int)) = false := by simp
              go_upto_region 31 with fail
              go_quiet ((first
                | (go_at_call 35; with_reducible exact Calls.quiet_of_same (waitq_at I1.out.f0 _))
                | (go_at_call 35; with_reducible exact Calls.quiet_of_same (waitq_at I1.out.f1 _))
                | (go_at_call 44; with_reducible exact Calls.quiet_of_same (waitq7_at I1.out.g0 _))
                | (go_at_call 44; with_reducible exact Calls.quiet_of_same (waitq7_at I1.out.g1 _))))
              have IE := Aside0.mk (I1.out.below (pw_below_drewN (Below.refl _ _) nq))
              clear c0 c1 e0 e1 b0
              go_wp2_with fail
              go_roundw
              case rel => exact ⟨m, d0, d1, congrArg (Value.int .i64) hw1, ⟨by have := HM.out; omega⟩, IE, ⟨HZ.out.1, HZ.out.2.1, by have := HM.out; have := HZ.out; exact ⟨by omega, by omega⟩⟩⟩
              case measure =>
                rw [hw1]
                show ((l.length : Int) - (m : Int)).toNat < ((l.length : Int) - (i : Int)).toNat
                have := HM.out
                omega

      · have xf : x.f1 = true := hf1
        rw [xf] at x1
        clear hf1 xf
        by_cases hk : x.f0 = 1
        · have k1 : (x.f0 == 1) = true := by rw [hk]; rfl
          have k2 : (x.f0 == 2) = false := by rw [hk]; rfl
          have k3 : (x.f0 == 3) = false := by rw [hk]; rfl
          clear hk
          have z := blk_cell I1.out.la 1
          have z9 := blk_cell I1.out.ra 1
          go_upto_region 21 with (go_at_call 38; refine (text7_calls (⟨x.f0, true, x.f2, x.f3, x.f4⟩ : S71) _ (show x.f2.size ≤ _ by have := HX.out; omega) HX.out.2).mono ?_; rintro e ws hsome; obtain ⟨s, rfl, hsz, hb⟩ := hsome; have HSS := Aside0.mk hsz; have I2 := Aside0.mk (I1.out.below hb); clear hb hsz)
          clear x0 x1 x2 x3 x4 k1 z z9
          have HPS := Aside0.mk (push_same d1 s HZ.out.2.1)
          have HSZ : Aside0 (d1.b.size + s.size ≤ 9223372036854775807) := ⟨by have := HZ.out; have := HSS.out; have := HX.out; have := HM.out; have := HL.out; omega⟩
          have z := blk_cell I2.out.la 1
          go_upto_region 22 with (go_at_call 32; refine (push_calls p1 d1.fd s _ I2.out.f1 HSZ.out).mono ?_; rintro e w3 ⟨rfl, hf, hc⟩; rw [HPS.out.1] at hf; have I3 := Aside0.mk (I2.out.putP1 hf hc); clear hf hc)
          clear z
          have z := blk_cell I3.out.ra 1
          go_upto_region 31 with (go_at_call 39; refine (push7_calls q1 d1 s _ I3.out.g1 HSZ.out).mono ?_; rintro e w4 ⟨rfl, hf, hc⟩; have I4 := Aside0.mk (I3.out.putQ1 hf hc); clear hf hc)
          clear z
          obtain ⟨dn, hdn⟩ : ∃ q, pushR d1 s = q := ⟨_, rfl⟩
          rw [hdn] at I4 HPS
          clear hdn
          have c0 := blk_cell I4.out.la 0
          have c1 := blk_cell I4.out.la 1
          have e0 := blk_cell I4.out.ra 0
          have e1 := blk_cell I4.out.ra 1
          have b0 : (((d0).b.size : Int) != ((d0).b.size : Int)) = false := by simp
          go_upto_region 31 with fail
          go_quiet ((first
            | (go_at_call 35; with_reducible exact Calls.quiet_of_same (waitq_at I4.out.f0 _))
            | (go_at_call 35; with_reducible exact Calls.quiet_of_same (waitq_at I4.out.f1 _))
            | (go_at_call 44; with_reducible exact Calls.quiet_of_same (waitq7_at I4.out.g0 _))
            | (go_at_call 44; with_reducible exact Calls.quiet_of_same (waitq7_at I4.out.g1 _))))
          have IE := Aside0.mk (I4.out.below (pw_below_drewN (Below.refl _ _) nq))
          clear c0 c1 e0 e1 b0
          go_wp2_with fail
          go_roundw
          case rel => exact ⟨m, d0, dn, congrArg (Value.int .i64) hw1, ⟨by have := HM.out; omega⟩, IE, ⟨HZ.out.1, HPS.out.2.1, by have := HM.out; have := HZ.out; have := HPS.out.2.2; have := HSS.out; have := HX.out; exact ⟨by omega, by omega⟩⟩⟩
          case measure =>
            rw [hw1]
            show ((l.length : Int) - (m : Int)).toNat < ((l.length : Int) - (i : Int)).toNat
            have := HM.out
            omega

        · by_cases hk2 : x.f0 = 2
          · replace hk := hk2; clear hk2
            have k1 : (x.f0 == 1) = false := by rw [hk]; rfl
            have k2 : (x.f0 == 2) = true := by rw [hk]; rfl
            have k3 : (x.f0 == 3) = false := by rw [hk]; rfl
            clear hk
            obtain ⟨D, N, hDN⟩ : ∃ D N, nextD d1 = (D, N) := ⟨_, _, rfl⟩
            have HDN := Aside0.mk hDN
            have HNS : Aside0 (nextF d1.fd = (D.fd, N) ∧ D.Ok) := ⟨by have h := next_same d1 HZ.out.2.1; rw [hDN] at h; exact h⟩
            have HNZ : Aside0 (D.b.size ≤ d1.b.size) := ⟨by have h := nextD_size d1; rw [hDN] at h; exact h⟩
            clear hDN
            have z := blk_cell I1.out.la 1
            have HSZ : Aside0 (d1.b.size ≤ 9223372036854775807) := ⟨by have := HZ.out; have := HM.out; have := HL.out; omega⟩
            go_upto_region 25 with (go_at_call 36; refine (next_calls p1 d1.fd _ (HG.out.below I1.out.low) I1.out.f1 HSZ.out (fd_pf _)).mono ?_; rintro e w3 hnx; rw [HNS.out.1] at hnx; obtain ⟨A1, c1, rfl, hr, hf, hc⟩ := nx_open hnx; have I2 := Aside0.mk (I1.out.putP1 hf hc); have R2 := Aside0.mk hr; clear hf hc hr; unfold Fr.cells)
            clear z x0 x1 x2 x3 x4
            obtain ⟨W3, hW⟩ : ∃ W, (w3.alloc (.cells #[.int .i64 N.fr.ty, .int .i64 N.fr.fl, .int .i64 N.fr.st, .string N.fr.da, .int .i64 N.fr.pad, .int .i64 N.fr.dep, .bool N.fr.ex, .int .i64 N.fr.wt, .int .i64 N.fr.co, .int .i64 N.fr.la, .slice A1 N.fr.ps.length c1] 24)).alloc (.cells #[.int .i64 N.code, .int .i64 N.st] 35) = W := ⟨_, rfl⟩
            obtain ⟨xa, hxa⟩ : ∃ g, w3.heap.size = g := ⟨_, rfl⟩
            obtain ⟨ya, hya⟩ : ∃ g, xa + 1 = g := ⟨_, rfl⟩
            have hb : Below w3.heap.size w3 W3 := by rw [← hW]; exact below_alloc (below_alloc (Below.refl _ _) _) _
            have I3 := Aside0.mk (I2.out.below hb)
            have R3 := Aside0.mk (Kd.R_below R2.out hb)
            have XA : Aside0 (At W3 xa N.fr A1 c1) := ⟨by rw [← hW, ← hxa]; exact heap_alloc2_old _ _ _⟩
            have YA : Aside0 (W3.heap[ya]? = some (.cells #[.int .i64 N.code, .int .i64 N.st] 35 (0, 0))) := ⟨by rw [← hW, ← hya, ← hxa]; exact heap_alloc2_new _ _ _⟩
            rw [hW, hxa, hya]
            clear hW hxa hya hb I2 R2
            have z := blk_cell I3.out.ra 1
            go_upto_region 26 with (go_at_call 40; refine (next7_calls q1 d1 _ I3.out.g1 HSZ.out).mono ?_; rintro e w4 hnx; rw [HDN.out] at hnx; obtain ⟨A2, c2, rfl, hr, hf, hc⟩ := ny_open hnx; have I4 := Aside0.mk (I3.out.putQ1 hf hc); have R4 := Aside0.mk hr; have HC4 := Aside0.mk hc; clear hf hc hr; unfold Fr.cells)
            clear z
            obtain ⟨W5, hW⟩ : ∃ W, (w4.alloc (.cells #[.int .i64 N.fr.ty, .int .i64 N.fr.fl, .int .i64 N.fr.st, .string N.fr.da, .int .i64 N.fr.pad, .int .i64 N.fr.dep, .bool N.fr.ex, .int .i64 N.fr.wt, .int .i64 N.fr.co, .int .i64 N.fr.la, .slice A2 N.fr.ps.length c2] 24)).alloc (.cells #[.int .i64 N.code, .int .i64 N.st] 35) = W := ⟨_, rfl⟩
            obtain ⟨xb, hxb⟩ : ∃ g, w4.heap.size = g := ⟨_, rfl⟩
            obtain ⟨yb, hyb⟩ : ∃ g, xb + 1 = g := ⟨_, rfl⟩
            have hb : Below w4.heap.size w4 W5 := by rw [← hW]; exact below_alloc (below_alloc (Below.refl _ _) _) _
            have hne := I3.out.ne
            have I5 := Aside0.mk (I4.out.below hb)
            have R5 := Aside0.mk (Kd.R_below R4.out hb)
            have XB : Aside0 (At W5 xb N.fr A2 c2) := ⟨by rw [← hW, ← hxb]; exact heap_alloc2_old _ _ _⟩
            have YB : Aside0 (W5.heap[yb]? = some (.cells #[.int .i64 N.code, .int .i64 N.st] 35 (0, 0))) := ⟨by rw [← hW, ← hyb, ← hxb]; exact heap_alloc2_new _ _ _⟩
            have hq := I3.out.g1
            have XA5 : Aside0 (At W5 xa N.fr A1 c1) := ⟨At.low (HC4.out.blk XA.out (blk_ne XA.out hq (by decide))) hb⟩
            have YA5 : Aside0 (W5.heap[ya]? = some (.cells #[.int .i64 N.code, .int .i64 N.st] 35 (0, 0))) := ⟨blk_below (HC4.out.blk YA.out (blk_ne YA.out hq (by decide))) hb⟩
            have CA := Aside0.mk (row_parts (Kd.R_below (row_chg R3.out hq HC4.out) hb))
            have CB := Aside0.mk (row_parts R5.out)
            rw [hW, hxb, hyb]
            clear hW hxb hyb hb hne hq I3 I4 R3 R4 HC4 XA YA
            have z0 := blk_cell YA5.out 0
            have z1 := blk_cell YA5.out 1
            have z2 := blk_cell YB.out 0
            have z3 := blk_cell YB.out 1
            go_upto_region 31 with (first
              | (refine load_rowG7 (by rfl) 24 _ rfl xa rfl 24 #[.int .i64 N.fr.ty, .int .i64 N.fr.fl, .int .i64 N.fr.st, .string N.fr.da, .int .i64 N.fr.pad, .int .i64 N.fr.dep, .bool N.fr.ex, .int .i64 N.fr.wt, .int .i64 N.fr.co, .int .i64 N.fr.la, .slice A1 N.fr.ps.length c1] (0, 0) _ XA5.out Tryd.underlying24 (by rfl) (by kernel_rfl) ?_)
              | (refine load_rowG7 (by rfl) 24 _ rfl xb rfl 24 #[.int .i64 N.fr.ty, .int .i64 N.fr.fl, .int .i64 N.fr.st, .string N.fr.da, .int .i64 N.fr.pad, .int .i64 N.fr.dep, .bool N.fr.ex, .int .i64 N.fr.wt, .int .i64 N.fr.co, .int .i64 N.fr.la, .slice A2 N.fr.ps.length c2] (0, 0) _ XB.out Tryd.underlying24 (by rfl) (by kernel_rfl) ?_)
              | (go_at_call 41; refine (same7_calls N.fr A1 A2 c1 c2 _ CA.out.2.2 CA.out.2.1 CA.out.1 CB.out.2.1 CB.out.1).mono ?_; rintro e w6 ⟨rfl, hb⟩; have I6 := Aside0.mk (I5.out.below hb); clear hb))
            clear z0 z1 z2 z3
            have c0 := blk_cell I6.out.la 0
            have c1 := blk_cell I6.out.la 1
            have e0 := blk_cell I6.out.ra 0
            have e1 := blk_cell I6.out.ra 1
            have b0 : (((d0).b.size : Int) != ((d0).b.size : Int)) = false := by simp
            go_upto_region 31 with fail
            go_quiet ((first
              | (go_at_call 35; with_reducible exact Calls.quiet_of_same (waitq_at I6.out.f0 _))
              | (go_at_call 35; with_reducible exact Calls.quiet_of_same (waitq_at I6.out.f1 _))
              | (go_at_call 44; with_reducible exact Calls.quiet_of_same (waitq7_at I6.out.g0 _))
              | (go_at_call 44; with_reducible exact Calls.quiet_of_same (waitq7_at I6.out.g1 _))))
            have IE := Aside0.mk (I6.out.below (pw_below_drewN (Below.refl _ _) nq))
            clear c0 c1 e0 e1 b0
            go_wp2_with fail
            go_roundw
            case rel => exact ⟨m, d0, D, congrArg (Value.int .i64) hw1, ⟨by have := HM.out; omega⟩, IE, ⟨HZ.out.1, HNS.out.2, by have := HM.out; have := HZ.out; have := HNZ.out; exact ⟨by omega, by omega⟩⟩⟩
            case measure =>
              rw [hw1]
              show ((l.length : Int) - (m : Int)).toNat < ((l.length : Int) - (i : Int)).toNat
              have := HM.out
              omega

          · by_cases hk3 : x.f0 = 3
            · replace hk := hk3; clear hk2 hk3
              have k1 : (x.f0 == 1) = false := by rw [hk]; rfl
              have k2 : (x.f0 == 2) = false := by rw [hk]; rfl
              have k3 : (x.f0 == 3) = true := by rw [hk]; rfl
              clear hk
              go_upto_region 29 with fail
              refine start_ (n := 9) (S := fun w' => w'.cell? ⟨al, 1, none⟩ = some (.pointer (some ⟨p1, 0, none⟩)) ∧ w'.cell? ⟨(ad.add (i * 5)).block, (ad.add (i * 5)).off + 4, none⟩ = some (.int .i64 x.f4) ∧ PI w w' al ar p0 q0 p1 q1 d0.fd d1.fd d0 d1) (ds := [8]) #[false, false, false, false, false, false, false, false, false] (by kernel_rfl) rfl rfl ⟨blk_cell (I1.out.below (below_drew (Below.refl _ _))).la 1, x4, (I1.out.below (below_drew (Below.refl _ _)))⟩ (fun hHeld => ?_)
              refine pure_ (i := 0) (N := some 114) (v := ?_) (a' := ?_) #[true, false, false, false, false, false, false, false, false] rfl rfl (by kernel_rfl) (fun _ _ _ h => h) (Or.inl ⟨by rfl, ?_⟩) ?_ ?_
              rotate_left
              · intro w'
                go_simp
                with_reducible rfl
              rotate_left
              · simp only [Act.put, List.setIfInBounds_toArray, List.set_cons_zero, List.set_cons_succ, i64_w, i32_w]
                rfl
              refine pure_ (i := 1) (N := some 115) (v := ?_) (a' := ?_) #[true, true, false, false, false, false, false, false, false] rfl rfl (by kernel_rfl) (fun _ _ _ h => h) (Or.inl ⟨by rfl, ?_⟩) ?_ ?_
              rotate_left
              · intro w'
                go_simp
                with_reducible rfl
              rotate_left
              · simp only [Act.put, List.setIfInBounds_toArray, List.set_cons_zero, List.set_cons_succ, i64_w, i32_w]
                rfl
              refine pure_ (i := 3) (N := some 117) (v := ?_) (a' := ?_) #[true, true, false, true, false, false, false, false, false] rfl rfl (by kernel_rfl) (fun _ _ _ h => h) (Or.inl ⟨by rfl, ?_⟩) ?_ ?_
              rotate_left
              · intro w'
                go_simp
                with_reducible rfl
              rotate_left
              · simp only [Act.put, List.setIfInBounds_toArray, List.set_cons_zero, List.set_cons_succ, i64_w, i32_w]
                rfl
              refine pure_ (i := 4) (N := some 118) (v := ?_) (a' := ?_) #[true, true, false, true, true, false, false, false, false] rfl rfl (by kernel_rfl) (fun _ _ _ h => h) (Or.inl ⟨by rfl, ?_⟩) ?_ ?_
              rotate_left
              · intro w'
                go_simp
                with_reducible rfl
              rotate_left
              · simp only [Act.put, List.setIfInBounds_toArray, List.set_cons_zero, List.set_cons_succ, i64_w, i32_w]
                rfl
              refine pure_ (i := 5) (N := some 119) (v := ?_) (a' := ?_) #[true, true, false, true, true, true, false, false, false] rfl rfl (by kernel_rfl) (fun _ _ _ h => h) (Or.inl ⟨by rfl, ?_⟩) ?_ ?_
              rotate_left
              · intro w'
                go_simp
                with_reducible rfl
              rotate_left
              · simp only [Act.put, List.setIfInBounds_toArray, List.set_cons_zero, List.set_cons_succ, i64_w, i32_w]
                rfl
              refine pure_ (i := 6) (N := some 120) (v := ?_) (a' := ?_) #[true, true, false, true, true, true, true, false, false] rfl rfl (by kernel_rfl) (fun _ _ _ h => h) (Or.inl ⟨by rfl, ?_⟩) ?_ ?_
              rotate_left
              · intro w'
                go_simp
                with_reducible rfl
              rotate_left
              · simp only [Act.put, List.setIfInBounds_toArray, List.set_cons_zero, List.set_cons_succ, i64_w, i32_w]
                rfl
              refine take_ (i := 2) (N := some 116) (v := ?_) (a' := ?_) #[true, true, true, true, true, true, true, false, false] rfl rfl (by kernel_rfl) (fun _ _ _ h => h) (Or.inl ⟨by rfl, ?_⟩) hHeld ?_ ?_
              rotate_left
              · rintro w' ⟨s0, s1, s2⟩
                go_simp
                with_reducible rfl
              rotate_left
              · simp only [Act.put, List.setIfInBounds_toArray, List.set_cons_zero, List.set_cons_succ, i64_w, i32_w]
                rfl
              refine take_ (i := 7) (N := some 121) (v := ?_) (a' := ?_) #[true, true, true, true, true, true, true, true, false] rfl rfl (by kernel_rfl) (fun _ _ _ h => h) (Or.inl ⟨by rfl, ?_⟩) hHeld ?_ ?_
              rotate_left
              · rintro w' ⟨s0, s1, s2⟩
                go_simp
                with_reducible rfl
              rotate_left
              · simp only [Act.put, List.setIfInBounds_toArray, List.set_cons_zero, List.set_cons_succ, i64_w, i32_w]
                rfl
              refine last_ (i := 8) (N := some 122) #[true, true, true, true, true, true, true, true, true] rfl rfl (by kernel_rfl) (by decide) (fun K hK => ?_)
              refine goes_ Tryd.func42 (by kernel_rfl) rfl #[.pointer (some ⟨p1, 0, none⟩), .int .i64 x.f4] (by rfl) rfl rfl (by simp only [List.map_toArray, List.map_cons, List.map_nil]; rfl) ?_
              with_reducible refine (setMost_calls p1 d1.fd x.f4 _ hHeld.2.2.f1).mono ?_
              rintro e w29 ⟨rfl, hf, hc⟩
              refine ⟨_, rfl, ?_⟩
              have I2 : Aside0 (PI w w29 al ar p0 q0 p1 q1 d0.fd ({ d1 with most := x.f4 } : Dc).fd d0 d1) := ⟨hHeld.2.2.putP1 hf hc⟩
              clear hf hc
              refine hK.out _ _ ?_
              clear hK K
              refine norm_ (a' := ?_) ?_ ?_
              rotate_left
              · show Act.put _ (some 122) _ = _
                simp only [Act.put, List.setIfInBounds_toArray, List.set_cons_zero, List.set_cons_succ, i64_w, i32_w]
                rfl
              refine done_ (by kernel_rfl) ?_
              clear hHeld x0 x1 x2 x3 x4
              obtain ⟨ad2, hA2, x0, x1, x2, x3, x4⟩ := at_T71 (Kd.C_below HR.out I2.out.low) (i : Int) p0_ p1_
              rw [hAD.out] at hA2
              obtain rfl := Option.some.inj hA2
              rw [Int.toNat_natCast, HXX.out] at x0 x1 x2 x3 x4
              go_upto_region 30 with fail
              refine start_ (n := 9) (S := fun w' => w'.cell? ⟨ar, 1, none⟩ = some (.pointer (some ⟨q1, 0, none⟩)) ∧ w'.cell? ⟨(ad.add (i * 5)).block, (ad.add (i * 5)).off + 4, none⟩ = some (.int .i64 x.f4) ∧ PI w w' al ar p0 q0 p1 q1 d0.fd ({ d1 with most := x.f4 } : Dc).fd d0 d1) (ds := [8]) #[false, false, false, false, false, false, false, false, false] (by kernel_rfl) rfl rfl ⟨blk_cell (I2.out.below (below_drew (Below.refl _ _))).ra 1, x4, (I2.out.below (below_drew (Below.refl _ _)))⟩ (fun hHeld => ?_)
              refine pure_ (i := 0) (N := some 123) (v := ?_) (a' := ?_) #[true, false, false, false, false, false, false, false, false] rfl rfl (by kernel_rfl) (fun _ _ _ h => h) (Or.inl ⟨by rfl, ?_⟩) ?_ ?_
              rotate_left
              · intro w'
                go_simp
                with_reducible rfl
              rotate_left
              · simp only [Act.put, List.setIfInBounds_toArray, List.set_cons_zero, List.set_cons_succ, i64_w, i32_w]
                rfl
              refine pure_ (i := 1) (N := some 124) (v := ?_) (a' := ?_) #[true, true, false, false, false, false, false, false, false] rfl rfl (by kernel_rfl) (fun _ _ _ h => h) (Or.inl ⟨by rfl, ?_⟩) ?_ ?_
              rotate_left
              · intro w'
                go_simp
                with_reducible rfl
              rotate_left
              · simp only [Act.put, List.setIfInBounds_toArray, List.set_cons_zero, List.set_cons_succ, i64_w, i32_w]
                rfl
              refine pure_ (i := 3) (N := some 126) (v := ?_) (a' := ?_) #[true, true, false, true, false, false, false, false, false] rfl rfl (by kernel_rfl) (fun _ _ _ h => h) (Or.inl ⟨by rfl, ?_⟩) ?_ ?_
              rotate_left
              · intro w'
                go_simp
                with_reducible rfl
              rotate_left
              · simp only [Act.put, List.setIfInBounds_toArray, List.set_cons_zero, List.set_cons_succ, i64_w, i32_w]
                rfl
              refine pure_ (i := 4) (N := some 127) (v := ?_) (a' := ?_) #[true, true, false, true, true, false, false, false, false] rfl rfl (by kernel_rfl) (fun _ _ _ h => h) (Or.inl ⟨by rfl, ?_⟩) ?_ ?_
              rotate_left
              · intro w'
                go_simp
                with_reducible rfl
              rotate_left
              · simp only [Act.put, List.setIfInBounds_toArray, List.set_cons_zero, List.set_cons_succ, i64_w, i32_w]
                rfl
              refine pure_ (i := 5) (N := some 128) (v := ?_) (a' := ?_) #[true, true, false, true, true, true, false, false, false] rfl rfl (by kernel_rfl) (fun _ _ _ h => h) (Or.inl ⟨by rfl, ?_⟩) ?_ ?_
              rotate_left
              · intro w'
                go_simp
                with_reducible rfl
              rotate_left
              · simp only [Act.put, List.setIfInBounds_toArray, List.set_cons_zero, List.set_cons_succ, i64_w, i32_w]
                rfl
              refine pure_ (i := 6) (N := some 129) (v := ?_) (a' := ?_) #[true, true, false, true, true, true, true, false, false] rfl rfl (by kernel_rfl) (fun _ _ _ h => h) (Or.inl ⟨by rfl, ?_⟩) ?_ ?_
              rotate_left
              · intro w'
                go_simp
                with_reducible rfl
              rotate_left
              · simp only [Act.put, List.setIfInBounds_toArray, List.set_cons_zero, List.set_cons_succ, i64_w, i32_w]
                rfl
              refine take_ (i := 2) (N := some 125) (v := ?_) (a' := ?_) #[true, true, true, true, true, true, true, false, false] rfl rfl (by kernel_rfl) (fun _ _ _ h => h) (Or.inl ⟨by rfl, ?_⟩) hHeld ?_ ?_
              rotate_left
              · rintro w' ⟨s0, s1, s2⟩
                go_simp
                with_reducible rfl
              rotate_left
              · simp only [Act.put, List.setIfInBounds_toArray, List.set_cons_zero, List.set_cons_succ, i64_w, i32_w]
                rfl
              refine take_ (i := 7) (N := some 130) (v := ?_) (a' := ?_) #[true, true, true, true, true, true, true, true, false] rfl rfl (by kernel_rfl) (fun _ _ _ h => h) (Or.inl ⟨by rfl, ?_⟩) hHeld ?_ ?_
              rotate_left
              · rintro w' ⟨s0, s1, s2⟩
                go_simp
                with_reducible rfl
              rotate_left
              · simp only [Act.put, List.setIfInBounds_toArray, List.set_cons_zero, List.set_cons_succ, i64_w, i32_w]
                rfl
              refine last_ (i := 8) (N := some 131) #[true, true, true, true, true, true, true, true, true] rfl rfl (by kernel_rfl) (by decide) (fun K hK => ?_)
              refine goes_ Tryd.func43 (by kernel_rfl) rfl #[.pointer (some ⟨q1, 0, none⟩), .int .i64 x.f4] (by rfl) rfl rfl (by simp only [List.map_toArray, List.map_cons, List.map_nil]; rfl) ?_
              with_reducible refine (setMost7_calls q1 d1 x.f4 _ hHeld.2.2.g1).mono ?_
              rintro e w30 ⟨rfl, hf, hc⟩
              refine ⟨_, rfl, ?_⟩
              have I3 := Aside0.mk (hHeld.2.2.putQ1 hf hc)
              clear hf hc
              refine hK.out _ _ ?_
              clear hK K
              refine norm_ (a' := ?_) ?_ ?_
              rotate_left
              · show Act.put _ (some 131) _ = _
                simp only [Act.put, List.setIfInBounds_toArray, List.set_cons_zero, List.set_cons_succ, i64_w, i32_w]
                rfl
              refine done_ (by kernel_rfl) ?_
              clear hHeld x0 x1 x2 x3 x4 hA2
              obtain ⟨dn, hdn⟩ : ∃ q : Dc, { d1 with most := x.f4 } = q := ⟨_, rfl⟩
              have HPS : Aside0 (dn.Ok ∧ dn.b.size = d1.b.size) := ⟨by rw [← hdn]; exact ⟨HZ.out.2.1, rfl⟩⟩
              rw [hdn] at I3
              clear hdn
              have c0 := blk_cell I3.out.la 0
              have c1 := blk_cell I3.out.la 1
              have e0 := blk_cell I3.out.ra 0
              have e1 := blk_cell I3.out.ra 1
              have b0 : (((d0).b.size : Int) != ((d0).b.size : Int)) = false := by simp
              go_upto_region 31 with fail
              go_quiet ((first
                | (go_at_call 35; with_reducible exact Calls.quiet_of_same (waitq_at I3.out.f0 _))
                | (go_at_call 35; with_reducible exact Calls.quiet_of_same (waitq_at I3.out.f1 _))
                | (go_at_call 44; with_reducible exact Calls.quiet_of_same (waitq7_at I3.out.g0 _))
                | (go_at_call 44; with_reducible exact Calls.quiet_of_same (waitq7_at I3.out.g1 _))))
              have IE := Aside0.mk (I3.out.below (pw_below_drewN (Below.refl _ _) nq))
              clear c0 c1 e0 e1 b0
              go_wp2_with fail
              go_roundw
              case rel => exact ⟨m, d0, dn, congrArg (Value.int .i64) hw1, ⟨by have := HM.out; omega⟩, IE, ⟨HZ.out.1, HPS.out.1, by have := HM.out; have := HZ.out; have := HPS.out.2; exact ⟨by omega, by omega⟩⟩⟩
              case measure =>
                rw [hw1]
                show ((l.length : Int) - (m : Int)).toNat < ((l.length : Int) - (i : Int)).toNat
                have := HM.out
                omega

            · replace hk := And.intro hk (And.intro hk2 hk3); clear hk2 hk3
              have k1 : (x.f0 == 1) = false := beq_eq_false_iff_ne.mpr (by omega)
              have k2 : (x.f0 == 2) = false := beq_eq_false_iff_ne.mpr (by omega)
              have k3 : (x.f0 == 3) = false := beq_eq_false_iff_ne.mpr (by omega)
              clear hk
              go_upto_region 31 with fail
              clear x0 x1 x2 x3 x4 k1 k2 k3
              have c0 := blk_cell I1.out.la 0
              have c1 := blk_cell I1.out.la 1
              have e0 := blk_cell I1.out.ra 0
              have e1 := blk_cell I1.out.ra 1
              have b0 : (((d0).b.size : Int) != ((d0).b.size : Int)) = false := by simp
              go_upto_region 31 with fail
              go_quiet ((first
                | (go_at_call 35; with_reducible exact Calls.quiet_of_same (waitq_at I1.out.f0 _))
                | (go_at_call 35; with_reducible exact Calls.quiet_of_same (waitq_at I1.out.f1 _))
                | (go_at_call 44; with_reducible exact Calls.quiet_of_same (waitq7_at I1.out.g0 _))
                | (go_at_call 44; with_reducible exact Calls.quiet_of_same (waitq7_at I1.out.g1 _))))
              have IE := Aside0.mk (I1.out.below (pw_below_drewN (Below.refl _ _) nq))
              clear c0 c1 e0 e1 b0
              go_wp2_with fail
              go_roundw
              case rel => exact ⟨m, d0, d1, congrArg (Value.int .i64) hw1, ⟨by have := HM.out; omega⟩, IE, ⟨HZ.out.1, HZ.out.2.1, by have := HM.out; have := HZ.out; exact ⟨by omega, by omega⟩⟩⟩
              case measure =>
                rw [hw1]
                show ((l.length : Int) - (m : Int)).toNat < ((l.length : Int) - (i : Int)).toNat
                have := HM.out
                omega

    · have t1 : decide ((i : Int) < (l.length : Int)) = false := decide_eq_false (by omega)
      have t2 : decide (i < l.length) = false := decide_eq_false hil
      clear hil
      go_wp2_with fail
      go_ret
      exact ⟨rfl, I1.out.low⟩
end Go.Proofs.YtoffhlbdfhhhjaaDoor.Fr
