/- An append to a row of one's own, of which the old slice is read on: what it read stays. The row is not empty. -/
import Derived.ArgAppend
import Derived.Test.YtoffhlbdfhhhjaaDoorMFrK
namespace Go.Proofs.YtoffhlbdfhhhjaaDoor.Fr
open Go Go.RowKit Go.Proofs.YtoffhlbdfhhhjaaDoorW.PrintWords Go.Proofs.YtoffhlbdfhhhjaaDoorW.PrintLast Go.Proofs.YtoffhlbdfhhhjaaDoorW.PrintMore Go.Proofs.YtoffhlbdfhhhjaaDoor.QL
set_option linter.unusedSimpArgs false
set_option linter.unusedVariables false
set_option maxRecDepth 100000
theorem run_append_either {P : Program} (w : World) (base : Nat) (t ty e : TypeId) (i : TypeInfo) (z : Value) (size bytes : Nat) (ht : P.underlying t = some (.slice e)) (hi : P.info? e = some i) (hz : i.zero = some z)
    (hsize : i.size = size) (hby : i.bytes = bytes) (hzs : z.cells.size = size) (hsz : 0 < size)
    (g n cap : Nat) (xs : List Value) (hown : w.ownsRow base e size (.slice (some ⟨g, 0, none⟩) n cap) n xs)
    (a : Addr) (m c : Nat) (news : List Value) (hl : news.length = m * size) (hnews : ∀ j u, news[j]? = some u → w.cell? (a.add j) = some u) (h1 : ∀ u ∈ news, u.oneCell' = true)
    (h63 : n + m ≤ maxLen) (hbytes : (n + m) * bytes ≤ 140737488355328) (hbase : base ≤ w.heap.size) :
    ∃ v' w', (Builtin.append_ #[t, t] ty #[.slice (some ⟨g, 0, none⟩) n cap, .slice (some a) m c]).run P w = .ok v' w' ∧ w'.ownsRow base e size v' (n + m) (xs ++ news) ∧ w.grownBy w' (some g) ∧
      (v'.ownBlock = some g ∨ v'.ownBlock = some w.heap.size ∧ w.grownBy w' none) := by
  obtain ⟨v', w', hr, h2, h3, h4, h5⟩ := run_append_own_at (P := P) w base t ty e i z size bytes ht hi hz hsize hby hzs hsz _ n xs hown a m c news hl hnews h1 h63 hbytes hbase
  refine ⟨v', w', hr, h2, h3, ?_⟩
  rcases h5 with h5 | h5
  · exact .inl h5
  · rcases hown.2 with ⟨hv, _⟩ | ⟨g', cap', cur, hv, hbg, hg, hnc, hcm, hcs, htake⟩
    · cases hv
    injection hv with ha _ hc
    injection ha with ha
    injection ha with hg'
    subst hg'; subst hc
    by_cases hroom : n + m ≤ cap
    · subst hsize
      have hfit : n * i.size + news.length ≤ cur.size := by rw [hl, hcs, ← Nat.add_mul]; exact Nat.mul_le_mul_right _ hroom
      have hr2 := run_append_room (P := P) w t ty e i ht hi g n cap cur hg a m c news hl hnews h1 hroom hfit
      rw [hr] at hr2
      injection hr2 with hv2 _
      exact .inl (by rw [hv2]; rfl)
    · obtain ⟨v2, w2, hr2, _, hg2⟩ := run_append_arg_grows (P := P) w t ty e i z size bytes ht hi hz hsize hby hzs hsz ⟨g, 0, none⟩ n cap xs hown.1 (hown.cells (g := g) rfl) a m c news hl hnews (by omega) h63 hbytes
      rw [hr] at hr2
      injection hr2 with hv2 hw2
      exact .inr ⟨h5, by rw [hw2]; exact hg2⟩
/-- append(v, x), v read on behind it. -/
theorem R_append_keep {P : Program} {ops : Array Oper} {rest : List Oper} {o : Oper} {a : Act} {Q : Exit → Act → World → Prop} {α : Type} (d : Kd α) {w0 W : World} (base : Nat) (hgd : o.guard = none) (s x : Operand) (t e : TypeId) (z : Value) (bytes : Nat)
    (ho : o.op = .call { callee := .builtin .append, args := #[s, x], argTypes := #[t, t] })
    (ht : P.underlying t = some (.slice e)) (hinfo : (P.info? e).map (fun i => (i.zero, i.size, i.bytes)) = some (some z, d.sz, bytes)) (hz : z.cells.size = d.sz) (hs0 : 0 < d.sz) (hb0 : 0 < bytes)
    (g n cap : Nat) (xs : List α) (p : α) (cs : List Value) (ok okp : Nat → Prop) (hs : a.eval s = .slice (some ⟨g, 0, none⟩) n cap) (hx : a.eval x = .slice (some ⟨W.heap.size, 0, none⟩) 1 1) (hp : d.M W base okp p cs) (hokp : ∀ k, okp k → ok k ∧ some k ≠ some g) (hfresh : ∀ k, W.heap.size ≤ k → ok k)
    (HO : d.R e W base ok (.slice (some ⟨g, 0, none⟩) n cap) xs) (HB : Below base w0 W) (hbase : base ≤ W.heap.size) (hl : (xs.length + 1) * bytes ≤ 140737488355328)
    (h : ∀ v1 w1, d.R e w1 base ok v1 (xs ++ [p]) → Below base w0 w1 → W.grownBy w1 (some g) → (v1.ownBlock = some g ∨ ∃ b, v1.ownBlock = some b ∧ W.heap.size ≤ b) → d.C w1 (some ⟨g, 0, none⟩) n xs → (∃ cells, w1.heap[g]? = some (.cells cells e (0, 0))) → wpList P ops Q rest (a.put o.dst v1) w1) :
    wpList P ops Q (o :: rest) a (W.alloc (.cells cs.toArray e)) := by
  have HC := (Kd.R_reads' HO)
  have hnx : n = xs.length := HC.1
  have HO0 := HO
  obtain ⟨h0, inner, hown, hr⟩ := HO
  rw [← hnx] at hown
  obtain ⟨i0, hi, hzz⟩ := Option.map_eq_some_iff.1 hinfo
  simp only [Prod.mk.injEq] at hzz
  obtain ⟨hz0, hz1, hz2⟩ := hzz
  have hlen : n + 1 ≤ 140737488355328 := by rw [hnx]; exact Nat.le_trans (Nat.le_mul_of_pos_right _ hb0) hl
  have hys : cs.length = d.sz := d.K_len (d.K_of_M hp)
  refine wpList_plain hgd fun K hK => ?_
  obtain ⟨v', w', hrun, h2, h3, h5⟩ := run_append_either (P := P) (W.alloc (.cells cs.toArray e)) base t o.type e i0 z d.sz bytes ht hi hz0 hz1 hz2 hz hs0 g n cap inner (hown.alloc _) ⟨W.heap.size, 0, none⟩ 1 1 cs (by rw [hys]; simp)
    (by simpa using World.news_of_block (cs := cs.toArray) (t := e) (fr := (0, 0)) (heap_alloc_new W (.cells cs.toArray e))) (d.K_one (d.K_of_M hp)) (by simp only [maxLen]; omega) (by rw [hnx]; exact hl) (by simp; omega)
  have hbel : Below base w0 w' := (HB.alloc hbase _).grown h3 (by simp; omega) (own_base hown)
  have hgr : W.grownBy w' (some g) := World.grownBy.trans (World.grownBy_alloc W _ _) h3
  have hat : v'.ownBlock = some g ∨ ∃ b, v'.ownBlock = some b ∧ W.heap.size ≤ b := by
    rcases h5 with h5 | ⟨h5, _⟩
    · exact .inl h5
    · exact .inr ⟨_, h5, by simp⟩
  have hR : d.R e w' base ok v' (xs ++ [p]) := Kd.R_appended (v := .slice (some ⟨g, 0, none⟩) n cap) h0 hr hp (fun k hk => ⟨(hokp k hk).1, by simpa [Value.ownBlock] using (hokp k hk).2⟩) hfresh (by rw [← hnx]; exact h2) hgr hat
  have hC : d.C w' (some ⟨g, 0, none⟩) n xs ∧ ∃ cells, w'.heap[g]? = some (.cells cells e (0, 0)) := by
    rcases h5 with h5 | ⟨_, h6⟩
    · obtain ⟨g', cap', e', _⟩ := Kd.R_form hR (by simp)
      rw [e'] at h5 hR
      have : g' = g := by simpa [Value.ownBlock] using h5
      subst this
      have hc := Kd.C_take (m := n) (Kd.R_reads' hR).2.2 (by rw [List.length_append]; omega)
      rw [List.take_append_of_le_length (by omega), List.take_of_length_le (by omega)] at hc
      rw [hnx]
      exact ⟨hc, Kd.R_typed hR g' (by simp [Value.ownBlock])⟩
    · have hb : Below W.heap.size W w' := by
        have hg0 : W.grownBy w' none := World.grownBy.trans (World.grownBy_alloc W _ _) h6
        exact ⟨hg0.os, hg0.tape, hg0.output, hg0.size, fun k hk => hg0.block k hk (by simp)⟩
      have := Kd.C_below HC.2.2 hb
      obtain ⟨cells, hcs⟩ := Kd.R_typed HO0 g (by simp [Value.ownBlock])
      rw [hnx]
      exact ⟨this, cells, (hb.block g (blk_lt hcs)).trans hcs⟩
  unfold Oper.wp execOp
  simp only [ho, resolve, invoke, builtin, Sem.run_bind, Sem.run_pure, Result.andThen_ok, List.map_toArray, List.map_cons, List.map_nil, hs, hx, hrun]
  exact hK _ _ (h v' w' hR hbel hgr hat hC.1 hC.2)
end Go.Proofs.YtoffhlbdfhhhjaaDoor.Fr
