/- Rows of one's own told by their values: what another row's writing leaves, an append of which the old slice is read on. No condition. -/
import Derived.Test.YtoffhlbdfhhhjaaDoorMFkA
namespace Go.Proofs.YtoffhlbdfhhhjaaDoor.Fr
open Go Go.RowKit Go.Proofs.YtoffhlbdfhhhjaaDoorW.PrintWords Go.Proofs.YtoffhlbdfhhhjaaDoorW.PrintLast Go.Proofs.YtoffhlbdfhhhjaaDoorW.PrintMore Go.Proofs.YtoffhlbdfhhhjaaDoor.QL
set_option linter.unusedSimpArgs false
set_option linter.unusedVariables false
set_option maxRecDepth 100000
/-- Two rows in blocks of their own. -/
def Ap (v u : Value) : Prop := ∀ k, v.ownBlock = some k → u.ownBlock ≠ some k
theorem Ap.symm {v u : Value} (h : Ap v u) : Ap u v := fun k h1 h2 => h k h2 h1
theorem ap_new {α β : Type} {d : Kd α} {d' : Kd β} {e e' b : Nat} {ok ok' : Nat → Prop} {W W1 : World} {v u : Value} {xs : List α} {ys : List β} (h : d.R e W b ok v xs) (h' : d'.R e' W1 W.heap.size ok' u ys) : Ap v u := by
  intro k h1 h2
  have := Kd.R_lt h k h1
  have := Kd.R_base h' k h2
  omega
theorem row_other {α : Type} {d : Kd α} {e b : Nat} {ok : Nat → Prop} {W W1 : World} {v u : Value} {xs : List α} (hE : d.E = []) (h : d.R e W b ok v xs) (hg : W.grownBy W1 u.ownBlock) (ha : Ap u v) : d.R e W1 b ok v xs :=
  Kd.R_grown2 h hE hg (fun k hk e => ha k hk e.symm)
theorem kept_other {α : Type} {d : Kd α} {W W1 : World} {v u : Value} {A : Option Addr} {n : Nat} {xs : List α} (h : Kd.F d W (fun k => some k = v.ownBlock) A n xs) (hg : W.grownBy W1 u.ownBlock) (ha : Ap u v) : Kd.F d W1 (fun k => some k = v.ownBlock) A n xs :=
  Kd.F_grown h hg (fun k hk e => ha k e.symm hk.symm)
/-- What an append has made lies apart from what lay apart from the old row. -/
theorem ap_append {α : Type} {d : Kd α} {e b : Nat} {ok : Nat → Prop} {W : World} {v v1 u : Value} {xs : List α} (hat : v1.ownBlock = v.ownBlock ∨ ∃ q, v1.ownBlock = some q ∧ W.heap.size ≤ q) (ha : Ap v u) (h : d.R e W b ok u xs) : Ap v1 u := by
  intro k h1 h2
  rcases hat with hat | ⟨q, hq, hle⟩
  · exact ha k (hat ▸ h1) h2
  · rw [h1] at hq
    injection hq with hq
    have := Kd.R_lt h k h2
    omega
theorem R_append_keepV {P : Program} {ops : Array Oper} {rest : List Oper} {o : Oper} {a : Act} {Q : Exit → Act → World → Prop} {α : Type} (d : Kd α) (hE : d.E = []) {w0 W : World} (base : Nat) (hgd : o.guard = none) (s x : Operand) (t e : TypeId) (z : Value) (bytes : Nat)
    (ho : o.op = .call { callee := .builtin .append, args := #[s, x], argTypes := #[t, t] })
    (ht : P.underlying t = some (.slice e)) (hinfo : (P.info? e).map (fun i => (i.zero, i.size, i.bytes)) = some (some z, d.sz, bytes)) (hz : z.cells.size = d.sz) (hs0 : 0 < d.sz) (hb0 : 0 < bytes)
    (A : Option Addr) (n cap : Nat) (xs : List α) (p : α) (cs : List Value) (hs : a.eval s = .slice A n cap) (hx : a.eval x = .slice (some ⟨W.heap.size, 0, none⟩) 1 1) (hp : d.M W base (fun _ => False) p cs)
    (HO : d.R e W base (fun _ => True) (.slice A n cap) xs) (HB : Below base w0 W) (hbase : base ≤ W.heap.size) (hl : (xs.length + 1) * bytes ≤ 140737488355328)
    (h : ∀ v1 w1, d.R e w1 base (fun _ => True) v1 (xs ++ [p]) → Below base w0 w1 → W.grownBy w1 (Value.slice A n cap).ownBlock → (v1.ownBlock = (Value.slice A n cap).ownBlock ∨ ∃ b, v1.ownBlock = some b ∧ W.heap.size ≤ b) → Kd.F d w1 (fun k => some k = (Value.slice A n cap).ownBlock) A n xs → wpList P ops Q rest (a.put o.dst v1) w1) :
    wpList P ops Q (o :: rest) a (W.alloc (.cells cs.toArray e)) := by
  have HC := Kd.R_reads' HO
  have hnx : n = xs.length := HC.1
  cases A with
  | none =>
    have h0 : n = 0 := by
      rcases Nat.eq_zero_or_pos n with h0 | h0
      · exact h0
      · obtain ⟨ad, e', _⟩ := HC.2.2.2.2 (by omega)
        cases e'
    obtain rfl : xs = [] := List.eq_nil_of_length_eq_zero (by omega)
    subst h0
    refine Kd.R_append d base hgd s x t e z bytes ho ht hinfo hz hs0 hb0 _ [] p cs (fun _ => True) (fun _ => False) hs hx hp (fun _ h => h.elim) (fun _ _ => trivial) HO HB hbase hl ?_
    intro v1 w1 h1 h2 h3 h4
    exact h v1 w1 h1 h2 h3 h4 (Kd.F_nil d w1 _)
  | some ad =>
    obtain ⟨g, rfl⟩ := Kd.R_head HO
    have HO0 := HO
    obtain ⟨h0, inner, hown, hr⟩ := HO
    rw [← hnx] at hown
    obtain ⟨i0, hi, hzz⟩ := Option.map_eq_some_iff.1 hinfo
    simp only [Prod.mk.injEq] at hzz
    obtain ⟨hz0, hz1, hz2⟩ := hzz
    have hlen : n + 1 ≤ 140737488355328 := by rw [hnx]; exact Nat.le_trans (Nat.le_mul_of_pos_right _ hb0) hl
    have hys : cs.length = d.sz := d.K_len (d.K_of_M hp)
    refine wpList_plain hgd fun K hK => ?_
    obtain ⟨v', w', hrun, h2, h3, h5⟩ := run_append_either (P := P) (W.alloc (.cells cs.toArray e)) base t o.type e i0 z d.sz bytes ht hi hz0 hz1 hz2 hz hs0 g n cap inner (hown.alloc _) ⟨W.heap.size, 0, none⟩ 1 1 cs (by rw [hys]; simp)
      (by simpa using World.news_of_block (cs := cs.toArray) (t := e) (fr := (0, 0)) (heap_alloc_new W (.cells cs.toArray e))) (d.K_one (d.K_of_M hp)) (by simp only [maxLen]; omega) (by rw [hnx]; exact hl) (by simp; omega)
    have hbel : Below base w0 w' := (HB.alloc hbase _).grown h3 (by simp; omega) (own_base hown)
    have hgr : W.grownBy w' (some g) := World.grownBy.trans (World.grownBy_alloc W _ _) h3
    have hat : v'.ownBlock = some g ∨ ∃ b, v'.ownBlock = some b ∧ W.heap.size ≤ b := by
      rcases h5 with h5 | ⟨h5, _⟩
      · exact .inl h5
      · exact .inr ⟨_, h5, by simp⟩
    have hR : d.R e w' base (fun _ => True) v' (xs ++ [p]) := Kd.R_appended (v := .slice (some ⟨g, 0, none⟩) n cap) h0 hr hp (fun k hk => hk.elim) (fun _ _ => trivial) (by rw [← hnx]; exact h2) hgr hat
    have hF : Kd.F d w' (fun k => some k = some g) (some ⟨g, 0, none⟩) n xs := by
      rcases h5 with h5 | ⟨_, h6⟩
      · obtain ⟨g', cap', e', _⟩ := Kd.R_form hR (by simp)
        rw [e'] at h5 hR
        have : g' = g := by simpa [Value.ownBlock] using h5
        subst this
        have hf := Kd.R_F (Kd.R_tight hE hR)
        refine Kd.F_imp hf (fun W' hc => ?_)
        have hc2 := Kd.C_take (m := n) hc (by rw [List.length_append]; omega)
        rw [List.take_append_of_le_length (by omega), List.take_of_length_le (by omega)] at hc2
        rw [hnx]
        exact hc2
      · have hb : Below W.heap.size W w' := by
          have hg0 : W.grownBy w' none := World.grownBy.trans (World.grownBy_alloc W _ _) h6
          exact ⟨hg0.os, hg0.tape, hg0.output, hg0.size, fun k hk => hg0.block k hk (by simp)⟩
        exact Kd.R_F (Kd.R_tight hE (Kd.R_below HO0 hb))
    unfold Oper.wp execOp
    simp only [ho, resolve, invoke, builtin, Sem.run_bind, Sem.run_pure, Result.andThen_ok, List.map_toArray, List.map_cons, List.map_nil, hs, hx, hrun]
    exact hK _ _ (h v' w' hR hbel hgr hat hF)
/-- The first j are written over. -/
def ow (x : Int) (L : List S32) (j : Nat) : List S32 := ((List.range j).map fun (m : Nat) => (⟨x, (m : Int)⟩ : S32)) ++ L.drop j
theorem ow_len (x : Int) (L : List S32) (j : Nat) (h : j ≤ L.length) : (ow x L j).length = L.length := by unfold ow; simp; omega
theorem ow_set (x : Int) (L : List S32) (j : Nat) (h : j < L.length) : (ow x L j).set j ⟨x, (j : Int)⟩ = ow x L (j + 1) := by
  unfold ow
  rw [List.set_append, if_neg (by simp), List.length_map, List.length_range, Nat.sub_self, List.drop_eq_getElem_cons h, List.set_cons_zero, List.range_succ, List.map_append, List.append_assoc]
  rfl
theorem ow_rd (x : Int) (L : List S32) (j : Nat) (h : j < L.length) : rd_T32 (ow x L L.length) (j : Int) = ⟨x, (j : Int)⟩ := by
  unfold rd_T32 ow
  simp [h, List.getElem?_append_left, List.getElem?_range]
theorem app_rd (L : List S32) (p : S32) (j : Nat) (h : j < L.length) : rd_T32 (L ++ [p]) (j : Int) = rd_T32 L (j : Int) := by unfold rd_T32; simp [h, List.getElem?_append_left]
theorem app_last (L : List S32) (p : S32) (n : Nat) (h : n = L.length) : rd_T32 (L ++ [p]) (n : Int) = p := by unfold rd_T32; simp [h]
end Go.Proofs.YtoffhlbdfhhhjaaDoor.Fr
