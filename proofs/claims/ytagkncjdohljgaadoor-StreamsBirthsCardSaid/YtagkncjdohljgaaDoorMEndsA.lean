/- What StreamsEnds holds while it runs: two tables and blocks of its own. Each statement has its own conditions. -/
import Derived.Test.YtagkncjdohljgaaDoorMLateA
namespace Go.Proofs.YtagkncjdohljgaaDoor.St
open Go Go.RowKit Go.Proofs.YtagkncjdohljgaaDoorW.PrintWords Go.Proofs.YtagkncjdohljgaaDoorW.PrintLast Go.Proofs.YtagkncjdohljgaaDoorW.PrintMore Go.Proofs.YtagkncjdohljgaaDoor.QL
set_option linter.unusedSimpArgs false
set_option linter.unusedVariables false
set_option maxHeartbeats 4000000
set_option maxRecDepth 100000
theorem skip_row {P : Program} {ops : Array Oper} {oi : Oper} {a : Act} {w : World} {K : Act → World → Prop} {Q : Exit → Act → World → Prop} (ty : TypeId) (x y : Operand) (ho : oi.op = .store ty x y) (hw : Region.wanted oi (yielded ops a.tmps) = true) (hN : oi.dst = none)
    (g : Nat) (cells : Array Value) (hx : a.eval x = .pointer (some ⟨g, 0, none⟩)) (hy : a.eval y = .agg cells) (t : TypeId) (old : Array Value) (hg : w.heap[g]? = some (.cells old t (0, 0))) (hi : (P.info? ty).map (·.size) = some cells.size)
    (hold : old.size = cells.size) (h1 : cells.all (·.oneCell') = true) (h : K a (w.setRow g cells)) : if Region.wanted oi (yielded ops a.tmps) = true then Oper.wp P oi a w K Q else K (a.put none undef) w := by
  rw [if_pos hw]
  refine wp_store_row ty x y ho g cells hx hy t old hg hi hold h1 ?_
  rw [hN]
  exact h
theorem row_store (W : World) (g : Nat) (new : Array Value) (t : TypeId) (old : Array Value) (hg : W.heap[g]? = some (.cells old t (0, 0))) : ∃ W', W.setRow g new = W' ∧ W'.heap[g]? = some (.cells new t (0, 0)) ∧ (∀ k : Nat, k ≠ g → W'.heap[k]? = W.heap[k]?) ∧ ∀ B w, Below B w W → B ≤ g → Below B w W' :=
  ⟨_, rfl, setRow_heap W g old new t (0, 0) hg, fun k hk => setRow_other W g k new hk, fun B w hb h => ⟨hb.os, hb.tape, hb.output, by rw [setRow_size]; exact hb.size, fun k hk => (setRow_other W g k new (by omega)).trans (hb.block k hk)⟩⟩
theorem blk_ne2 {w : World} {g h : Nat} {t u : TypeId} {cs ds : Array Value} (hg : w.heap[g]? = some (.cells cs t (0, 0))) (hh : w.heap[h]? = some (.cells ds u (0, 0))) (ht : t ≠ u) : g ≠ h := fun e => by
  rw [e, hh] at hg
  injection hg with hg
  injection hg with _ h2
  exact ht h2.symm
/-- Two tables, and blocks G of the law's own. -/
structure EW (w W : World) (G : Nat → Prop) (S1 : Nat → Prop) (p1 : Nat) (T : Tb) (S2 : Nat → Prop) (p2 : Nat) (U : Tb) : Prop where
  tw : Tw W w.heap.size S1 p1 T S2 p2 U
  be : Below w.heap.size w W
  fr : ∀ k, G k → ¬ S1 k ∧ ¬ S2 k
  gl : ∀ k, G k → w.heap.size ≤ k ∧ k < W.heap.size
section
variable {w W W1 : World} {G G' : Nat → Prop} {S1 S2 : Nat → Prop} {p1 p2 : Nat} {T T' U : Tb}
theorem EW.swap (h : EW w W G S1 p1 T S2 p2 U) : EW w W G S2 p2 U S1 p1 T := ⟨h.tw.swap, h.be, fun k hk => ⟨(h.fr k hk).2, (h.fr k hk).1⟩, h.gl⟩
theorem EW.mono (h : EW w W G S1 p1 T S2 p2 U) (hs : ∀ k, G' k → G k) : EW w W G' S1 p1 T S2 p2 U := ⟨h.tw, h.be, fun k hk => h.fr k (hs k hk), fun k hk => h.gl k (hs k hk)⟩
theorem EW.low (h : EW w W G S1 p1 T S2 p2 U) (hb : Below W.heap.size W W1) : EW w W1 G S1 p1 T S2 p2 U := ⟨h.tw.low hb, below_then h.be h.be.size hb, h.fr, fun k hk => by have := h.gl k hk; have := hb.size; omega⟩
theorem EW.act (h : EW w W G S1 p1 T S2 p2 U) (hd : DoPost W W1 w.heap.size S1 p1 T') : ∃ S', EW w W1 G S' p1 T' S2 p2 U ∧ ∀ k o, G k → W.heap[k]? = some o → W1.heap[k]? = some o := by
  obtain ⟨S', h1, h2, h3⟩ := hd
  refine ⟨S', ⟨⟨h1, h.tw.b.fr h2 (fun k hk e => h.tw.ap k e hk), fun k hk e => ?_⟩, Fr.below h.be h.be.size h2 (fun k hk => (h.tw.a.bd k hk).1), fun k hk => ⟨fun e => ?_, (h.fr k hk).2⟩, fun k hk => by have := h.gl k hk; have := h2.size; omega⟩, fun k o hk ho => h2.blk ho (h.fr k hk).1⟩
  · rcases h3 k hk with h4 | h4
    · exact h.tw.ap k h4 e
    · have := (h.tw.b.bd k e).2
      omega
  · rcases h3 k e with h4 | h4
    · exact (h.fr k hk).1 h4
    · have := (h.gl k hk).2
      omega
theorem EW.add (h : EW w W G S1 p1 T S2 p2 U) (o : Obj) {g : Nat} (hg : W.heap.size = g) : EW w (W.alloc o) (fun k => G k ∨ k = g) S1 p1 T S2 p2 U := by
  have hl := h.low (below_alloc (Below.refl W.heap.size W) o)
  refine ⟨hl.tw, hl.be, fun k hk => ?_, fun k hk => ?_⟩
  · rcases hk with hk | hk
    · exact h.fr k hk
    · exact ⟨fun e => by have := (h.tw.a.bd k e).2; omega, fun e => by have := (h.tw.b.bd k e).2; omega⟩
  · rcases hk with hk | hk
    · exact hl.gl k hk
    · rw [World.size_alloc]
      have := h.be.size
      omega
theorem EW.put (h : EW w W G S1 p1 T S2 p2 U) {g : Nat} (hg : G g) (ho : ∀ k : Nat, k ≠ g → W1.heap[k]? = W.heap[k]?) (hB : ∀ B w, Below B w W → B ≤ g → Below B w W1) : EW w W1 G S1 p1 T S2 p2 U := by
  have h0 := hB 0 W (Below.refl _ _) (Nat.zero_le _)
  have hF : Fr W W1 (fun k => k = g) := ⟨h0.os, h0.tape, h0.output, h0.size, fun k _ hk => ho k hk⟩
  refine ⟨⟨h.tw.a.fr hF (fun k hk e => (h.fr g hg).1 (e ▸ hk)), h.tw.b.fr hF (fun k hk e => (h.fr g hg).2 (e ▸ hk)), h.tw.ap⟩, hB _ _ h.be (h.gl g hg).1, h.fr, fun k hk => by have := h.gl k hk; have := h0.size; omega⟩
end
theorem mirror_f (s : Int) : heraldlaw11_mirror.f s = some (mir s) := by
  unfold heraldlaw11_mirror.f mir
  split
  · rfl
  split
  · rfl
  split
  · rfl
  split
  · rfl
  · rfl
theorem quiet_drawn {P : Program} {f : FuncId} {args : Array Value} {w : World} {n : Nat} {v : Value} (h : Calls P f args (w.drewN n) fun e w' => e = .returned v ∧ Drawn0 (w.drewN n) w') : Calls P f args (w.drewN n) fun e w'' => e = .returned v ∧ ∃ m, w'' = w.drewN m :=
  h.mono fun _ _ ⟨he, hm⟩ => ⟨he, by
    obtain ⟨k, hk⟩ := hm.out
    exact ⟨n + k, by rw [hk, World.drewN_drewN]⟩⟩
end Go.Proofs.YtagkncjdohljgaaDoor.St
