/- Births: what an event does to the table's numbers, in plain Lean; no condition but those in each statement. -/
import Derived.Test.YtagkncjdohljgaaDoorMEndsA
namespace Go.Proofs.YtagkncjdohljgaaDoor.St
open Go Go.RowKit Go.Proofs.YtagkncjdohljgaaDoorW.PrintWords Go.Proofs.YtagkncjdohljgaaDoorW.PrintLast Go.Proofs.YtagkncjdohljgaaDoorW.PrintMore Go.Proofs.YtagkncjdohljgaaDoor.QL
set_option linter.unusedSimpArgs false
set_option linter.unusedVariables false
set_option maxHeartbeats 4000000
set_option maxRecDepth 100000
/-- What an event may do. -/
theorem act_cases {T : Tb} (ho : TbOk T) (id : Int) (got : Bool) (k : Int) :
    (T.act id got k).2 = T ∨ (∃ x y, T.m id = some y ∧ (T.act id got k).2 = T.put id x ∧ 1 ≤ x.s ∧ x.s ≤ 6) ∨
    (∃ x, T.m id = none ∧ In31 id ∧ T.stt id = 0 ∧ T.last id < id ∧ (T.act id got k).2 = T.put id x ∧ 1 ≤ x.s ∧ x.s ≤ 6 ∧ (k = 1 ∨ k = 2 ∨ k = 5) ∧ T.gives id got k = true) := by
  have hs := stt_range ho id
  unfold Tb.act
  split
  · exact Or.inl rfl
  rename_i hk
  split
  · exact Or.inl rfl
  rename_i hI
  split
  · exact Or.inl rfl
  rename_i hg
  split
  · exact Or.inl rfl
  split
  · exact Or.inl rfl
  rename_i h5
  have hI' := Classical.not_not.mp hI
  have hne : (nx got k (T.stt id)).1 ≠ T.stt id := fun e => h5 (Or.inr e)
  have hr := nx_range got k (T.stt id) (by omega) (by omega) hs.1 hs.2
  have h1 : 1 ≤ (nx got k (T.stt id)).1 := by
    rcases Int.lt_or_eq_of_le hr.1 with e | e
    · omega
    · exact absurd ((e.symm).trans (hr.2.2 e.symm).symm) hne
  rcases hm : T.m id with _ | y
  · refine Or.inr (Or.inr ⟨_, rfl, hI', ?_, ?_, rfl, h1, hr.2.1, ?_, ?_⟩)
    · have h6 : T.stt id ≠ 6 := fun e => hne (by rw [e]; exact nx_closed got k (by omega) (by omega))
      have := stt_none hI' hm h6
      unfold Tb.stt
      rw [if_pos hI', hm]
      exact if_pos this
    · have h6 : T.stt id ≠ 6 := fun e => hne (by rw [e]; exact nx_closed got k (by omega) (by omega))
      exact stt_none hI' hm h6
    · have h6 : T.stt id ≠ 6 := fun e => hne (by rw [e]; exact nx_closed got k (by omega) (by omega))
      have hl := stt_none hI' hm h6
      have h0 : T.stt id = 0 := by unfold Tb.stt; rw [if_pos hI', hm]; exact if_pos hl
      exact nx_idle got k (by omega) (by omega) (by rw [h0] at hne; exact hne)
    · have h6 : T.stt id ≠ 6 := fun e => hne (by rw [e]; exact nx_closed got k (by omega) (by omega))
      have hl := stt_none hI' hm h6
      have h0 : T.stt id = 0 := by unfold Tb.stt; rw [if_pos hI', hm]; exact if_pos hl
      have hk2 := nx_idle got k (by omega) (by omega) (by rw [h0] at hne; exact hne)
      cases hb : T.gives id got k
      · exact absurd ⟨h0, hk2, hb⟩ hg
      · rfl
  · exact Or.inr (Or.inl ⟨_, y, rfl, rfl, h1, hr.2.1⟩)
theorem gives_odd {T : Tb} {id : Int} {got : Bool} {k : Int} (hp : id % 2 = 1) (hk : k = 1 ∨ k = 2 ∨ k = 5) (h : T.gives id got k = true) : (k = 1 ∨ k = 2) ∧ (got == T.cl) = false := by
  unfold Tb.gives at h
  split at h
  · rw [decide_eq_false (by omega)] at h
    cases h
  · rw [decide_eq_true hp, Bool.true_and] at h
    refine ⟨by omega, ?_⟩
    cases hb : (got == T.cl)
    · rfl
    · rw [hb] at h; cases h
theorem gives_even {T : Tb} {id : Int} {got : Bool} {k : Int} (hp : id % 2 = 0) (h : T.gives id got k = true) : k = 5 ∧ (got == T.cl) = true := by
  unfold Tb.gives at h
  split at h
  · rw [decide_eq_true hp, Bool.true_and] at h
    exact ⟨by assumption, h⟩
  · rw [decide_eq_false (by omega)] at h
    cases h
theorem and_one' (id : Int) (h0 : 0 ≤ id) (h1 : id ≤ 9223372036854775807) : Go.bits .and .i64 id 1 = id % 2 := by
  obtain ⟨i, rfl⟩ := Int.eq_ofNat_of_zero_le h0
  have e : Go.bits .and .i64 (i : Int) 1 = IntKind.i64.wrap (((BitVec.ofInt 64 (i : Int)).toNat &&& 1 : Nat) : Int) := by
    show IntKind.i64.wrap _ = _
    simp only [BitVec.toNat_and]
    rfl
  rw [e, BitVec.ofInt_natCast, BitVec.toNat_ofNat, Nat.mod_eq_of_lt (by omega), Nat.and_one_is_mod, IntWalk.i64_in _ (by omega)]
  omega
theorem stt_put {T : Tb} {id : Int} {x : Sx} (hI : In31 id) : (T.put id x).stt id = x.s := by
  unfold Tb.stt
  rw [if_pos hI, put_m, if_pos rfl]
/-- The list of those that were born. -/
def Born (T : Tb) (L : List Int) : Prop := L.Nodup ∧ ∀ id, id ∈ L ↔ T.m id ≠ none
theorem Born.new (c : Bool) : Born (Tb.new c) [] := ⟨List.nodup_nil, fun id => ⟨fun h => (by cases h), fun h => absurd rfl h⟩⟩
theorem Born.upd {T : Tb} {L : List Int} (h : Born T L) {id : Int} {x y : Sx} (hm : T.m id = some y) : Born (T.put id x) L := by
  refine ⟨h.1, fun i => ?_⟩
  rw [put_m, h.2 i]
  split
  · rename_i e; rw [e, hm]; simp
  · rfl
theorem Born.put {T : Tb} {L : List Int} (h : Born T L) {id : Int} {x : Sx} (hm : T.m id = none) : Born (T.put id x) (L ++ [id]) := by
  have hn : id ∉ L := fun e => (h.2 id).1 e hm
  refine ⟨List.nodup_append.2 ⟨h.1, (by simp), fun a ha b hb => by rw [List.mem_singleton.1 hb]; rintro rfl; exact hn ha⟩, fun i => ?_⟩
  rw [put_m, List.mem_append, List.mem_singleton, h.2 i]
  by_cases e : i = id
  · rw [if_pos e, e, hm]; simp
  · rw [if_neg e]; simp [e]
theorem Born.len {T : Tb} (ho : TbOk T) {L : List Int} (h : Born T L) : L.length ≤ 4294967294 := by
  have h1 : ∀ x ∈ L.mergeSort (fun x y => decide (x ≤ y)), 1 ≤ x ∧ x ≤ 2147483647 := fun x hx => by
    have hx' : x ∈ L := (List.mergeSort_perm L _).mem_iff.1 hx
    rcases hm : T.m x with _ | y
    · exact absurd hm ((h.2 x).1 hx')
    · exact ho.in31 hm
  have hs := (sorted_of (P := fun id => decide (T.m id ≠ none)) (ids := L) ⟨h.1, fun id => by rw [h.2 id]; simp⟩).1
  have h2 : ∀ (l : List Int) (lo : Int), l.Pairwise (· < ·) → (∀ x ∈ l, lo ≤ x ∧ x ≤ 2147483647) → lo ≤ 2147483648 → (l.length : Int) ≤ 2147483648 - lo := by
    intro l
    induction l with
    | nil => intro lo _ _ h; simp; omega
    | cons x l ih =>
      intro lo hs hb _
      have hc := List.pairwise_cons.1 hs
      have hx := hb x (List.mem_cons_self ..)
      have := ih (x + 1) hc.2 (fun y hy => ⟨by have := hc.1 y hy; omega, (hb y (List.mem_cons_of_mem _ hy)).2⟩) (by omega)
      rw [List.length_cons]
      omega
  have h3 := h2 _ 1 hs h1 (by omega)
  rw [List.length_mergeSort] at h3
  omega
/-- How many of the first have it. -/
def cnt (P : Int → Bool) (L : List Int) (k : Nat) : Nat := ((L.take k).filter P).length
theorem cnt_zero (P : Int → Bool) (L : List Int) : cnt P L 0 = 0 := by unfold cnt; simp
theorem cnt_le (P : Int → Bool) (L : List Int) (k : Nat) : cnt P L k ≤ k := by
  unfold cnt
  exact Nat.le_trans (List.length_filter_le _ _) (by rw [List.length_take]; omega)
theorem cnt_step (P : Int → Bool) (L : List Int) (k : Nat) (hk : k < L.length) : cnt P L (k + 1) = cnt P L k + if P L[k] = true then 1 else 0 := by
  unfold cnt
  rw [List.take_succ_eq_append_getElem hk, List.filter_append, List.length_append]
  by_cases h : P L[k] = true
  · rw [if_pos h]; simp [h]
  · rw [if_neg h]; simp [h]
theorem cnt_all {P : Int → Bool} {L M : List Int} (hL : L.Nodup) (hM : M.Nodup) (h : ∀ x, x ∈ M ↔ P x = true) (hP : ∀ x, P x = true → x ∈ L) : cnt P L L.length = M.length := by
  unfold cnt
  rw [List.take_length]
  have hx : ∀ x, x ∈ L.filter P ↔ x ∈ M := fun x => by rw [List.mem_filter, h x]; exact ⟨fun e => e.2, fun e => ⟨hP x e, e⟩⟩
  exact Nat.le_antisymm (nodup_len _ _ (hL.filter P) (fun x hm => (hx x).1 hm)) (nodup_len _ _ hM (fun x hm => (hx x).2 hm))
theorem live_born {T : Tb} {L : List Int} (h : Born T L) (x : Int) (hx : T.liveB x = true) : x ∈ L := by
  rw [h.2 x]
  intro e
  unfold Tb.liveB at hx
  rw [e] at hx
  cases hx
theorem cnt_born {T : Tb} {L : List Int} (h : Born T L) (loc : Bool) (x : Int) (hx : T.cntB loc x = true) : x ∈ L := by
  rw [h.2 x]
  intro e
  unfold Tb.cntB at hx
  rw [e] at hx
  cases hx
theorem stt_zero {T : Tb} (ho : TbOk T) {id : Int} (h : T.stt id = 0) : T.m id = none := by
  rcases hm : T.m id with _ | x
  · rfl
  · have h1 := stt_some ho hm
    have h2 := (ho.at_ id x hm).2.2.1
    omega
theorem birth_facts {T : Tb} (ho : TbOk T) (id : Int) (got : Bool) (k : Int) {L : List Int} (hb : Born (T.act id got k).2 L) :
    (T.stt id = 0 → ((T.act id got k).2.stt id = 0 ↔ id ∉ L)) ∧ (T.stt id ≠ 0 → (T.act id got k).2.stt id ≠ 0) := by
  rcases act_cases ho id got k with e | ⟨x, y, hy, e, h1, _⟩ | ⟨x, hn, hI, h0, _, e, h1, _⟩
  · rw [e] at hb ⊢
    refine ⟨fun h => ⟨fun _ hm => (hb.2 id).1 hm (stt_zero ho h), fun _ => h⟩, fun h => h⟩
  · have hs := stt_some ho hy
    have hy1 := (ho.at_ id y hy).2.2.1
    have hI := ho.in31 hy
    rw [e, stt_put hI]
    exact ⟨fun h => by omega, fun _ => by omega⟩
  · rw [e] at hb
    rw [e, stt_put hI]
    refine ⟨fun _ => ⟨fun h => by omega, fun h => absurd ((hb.2 id).2 (by rw [put_m, if_pos rfl]; simp)) h⟩, fun _ => by omega⟩
theorem past_closed {T : Tb} (ho : TbOk T) {id : Int} (h1 : 1 ≤ id) (hl : id < T.last id) {L : List Int} (hb : Born T L) (hn : id ∉ L) : T.stt id = 6 := by
  have hm : T.m id = none := Classical.byContradiction fun h => hn ((hb.2 id).2 h)
  have hmax : T.last id ≤ 2147483647 := by unfold Tb.last; split; exact ho.b1.2; exact ho.b0.2
  unfold Tb.stt
  rw [if_pos ⟨h1, by omega⟩, hm]
  exact if_neg (by omega)
theorem act_cl (T : Tb) (id : Int) (got : Bool) (k : Int) : (T.act id got k).2.cl = T.cl := by
  unfold Tb.act
  split
  · rfl
  split
  · rfl
  split
  · rfl
  split
  · rfl
  split <;> rfl
theorem in_q (A : Option Addr) (c : Nat) (l : List Int) (x : Int) (b : Bool) (w : World) (k : Nat) (h1 : Kd.C (Kd.int .i64) w A l.length l) (h2 : l.length ≤ c) (hb : decide (x ∈ l) = b) : Calls Tryd.prog 23 #[.slice A l.length c, .int .i64 x] (w.drewN k) fun e w'' => e = .returned (.bool b) ∧ ∃ m, w'' = w.drewN m :=
  quiet_drawn ((in_calls A c l x (w.drewN k) (Kd.C_below h1 (pw_below_drewN (Below.refl _ _) k)) h2).mono fun e w' h => ⟨by rw [h.1, hb], h.2⟩)
theorem next_facts {T : Tb} (ho : TbOk T) : T.next.2 = decide (T.lastk true + 2 ≤ 2147483647) ∧ (T.next.2 = true → T.lastk true < T.next.1 ∧ T.next.1 ≤ T.lastk true + 2 ∧ 1 ≤ T.next.1 ∧ decide (T.next.1 % 2 = 1) = T.cl) := by
  have hl := ho.lk true
  unfold Tb.next
  by_cases h0 : T.lastk true = 0
  · rw [if_pos h0, h0]
    cases hc : T.cl
    · exact ⟨rfl, fun _ => ⟨by decide, by decide, by decide, rfl⟩⟩
    · exact ⟨rfl, fun _ => ⟨by decide, by decide, by decide, rfl⟩⟩
  · rw [if_neg h0]
    by_cases h1 : 2147483647 < T.lastk true + 2
    · rw [if_pos h1]
      exact ⟨(decide_eq_false (by omega)).symm, fun h => by cases h⟩
    · rw [if_neg h1]
      refine ⟨(decide_eq_true (by omega)).symm, fun _ => ⟨by dsimp only; omega, by dsimp only; omega, by dsimp only; omega, ?_⟩⟩
      dsimp only
      have e0 := ho.e0
      have e1 := ho.e1
      unfold Tb.lastk at h0 ⊢
      cases hc : T.cl
      · rw [hc] at h0
        rw [if_neg (by decide)] at h0 ⊢
        exact decide_eq_false (by omega)
      · rw [hc] at h0
        rw [if_pos rfl] at h0 ⊢
        rcases e1 with e | e
        · exact absurd e h0
        · exact decide_eq_true (by omega)
theorem cntB_at {T : Tb} {b : Int} {x : Sx} (h : T.m b = some x) (loc : Bool) : T.cntB loc b = (((decide (b % 2 = 1) == T.cl) == loc) && cntS x.s) := by
  unfold Tb.cntB
  rw [h]
theorem liveB_at {T : Tb} {b : Int} {x : Sx} (h : T.m b = some x) : T.liveB b = decide (x.s ≠ 6) := by
  unfold Tb.liveB
  rw [h]
/-- A count's step, as the walk spells it. -/
theorem cnt_inc {P : Int → Bool} {L : List Int} {k : Nat} (hk : k < L.length) (hl : L.length ≤ 4294967294) (h : P L[k] = true) : wrap64 ((cnt P L k : Int) + 1) = ((cnt P L (k + 1) : Nat) : Int) := by
  rw [cnt_step P L k hk, if_pos h]
  have := cnt_le P L k
  unfold wrap64
  omega
theorem cnt_stay {P : Int → Bool} {L : List Int} {k : Nat} (hk : k < L.length) (h : P L[k] = false) : ((cnt P L k : Nat) : Int) = ((cnt P L (k + 1) : Nat) : Int) := by
  rw [cnt_step P L k hk, if_neg (by rw [h]; decide)]
  rfl
/-- A table, blocks G of the law's own, and a row. -/
structure BW (w W : World) (G : Nat → Prop) (S : Nat → Prop) (p : Nat) (T : Tb) (v : Value) (L : List Int) : Prop where
  ta : TAt W w.heap.size S p T
  be : Below w.heap.size w W
  fr : ∀ k, G k → ¬ S k
  gl : ∀ k, G k → w.heap.size ≤ k ∧ k < W.heap.size
  rl : Kd.R (Kd.int .i64) 2 W w.heap.size (fun k => ¬ S k ∧ ¬ G k) v L
section
variable {w W W1 : World} {G G' : Nat → Prop} {S : Nat → Prop} {p : Nat} {T T' : Tb} {v v' : Value} {L L' : List Int}
theorem BW.low (h : BW w W G S p T v L) (hb : Below W.heap.size W W1) : BW w W1 G S p T v L := ⟨h.ta.low hb, below_then h.be h.be.size hb, h.fr, fun k hk => by have := h.gl k hk; have := hb.size; omega, Kd.R_below h.rl hb⟩
theorem BW.mono (h : BW w W G S p T v L) (hs : ∀ k, G' k → G k) : BW w W G' S p T v L := ⟨h.ta, h.be, fun k hk => h.fr k (hs k hk), fun k hk => h.gl k (hs k hk), Kd.R_mono h.rl (fun k hk => ⟨hk.1, fun e => hk.2 (hs k e)⟩)⟩
theorem BW.act (h : BW w W G S p T v L) (hd : DoPost W W1 w.heap.size S p T') : ∃ S', BW w W1 G S' p T' v L ∧ ∀ k o, G k → W.heap[k]? = some o → W1.heap[k]? = some o := by
  obtain ⟨S', h1, h2, h3⟩ := hd
  refine ⟨S', ⟨h1, Fr.below h.be h.be.size h2 (fun k hk => (h.ta.bd k hk).1), fun k hk e => ?_, fun k hk => by have := h.gl k hk; have := h2.size; omega, ?_⟩, fun k o hk ho => h2.blk ho (h.fr k hk)⟩
  · rcases h3 k e with h4 | h4
    · exact h.fr k hk h4
    · have := (h.gl k hk).2
      omega
  · refine Kd.R_mono (Kd.R_step (Kd.R_bound h.rl) (fun k hk hlt => h2.block k hlt hk.1.1)) (fun k hk => ⟨fun e => ?_, hk.1.2⟩)
    rcases h3 k e with h4 | h4
    · exact hk.1.1 h4
    · have := hk.2.2.1
      omega
theorem BW.add (h : BW w W G S p T v L) (o : Obj) {g : Nat} (hg : W.heap.size = g) : BW w (W.alloc o) (fun k => G k ∨ k = g) S p T v L := by
  have hl := h.low (below_alloc (Below.refl W.heap.size W) o)
  refine ⟨hl.ta, hl.be, fun k hk => ?_, fun k hk => ?_, ?_⟩
  · rcases hk with hk | hk
    · exact h.fr k hk
    · exact fun e => by have := (h.ta.bd k e).2; omega
  · rcases hk with hk | hk
    · exact hl.gl k hk
    · rw [World.size_alloc]
      have := h.be.size
      omega
  · refine Kd.R_mono (Kd.R_below (Kd.R_bound h.rl) (below_alloc (Below.refl _ _) _)) (fun k hk => ⟨hk.1.1, fun e => ?_⟩)
    rcases e with e | e
    · exact hk.1.2 e
    · have := hk.2.2.1
      omega
theorem BW.put (h : BW w W G S p T v L) {g i : Nat} {u : Value} (hg : G g) (e : W.setCell ⟨g, i, none⟩ u = W1) : BW w W1 G S p T v L := by
  subst e
  have hF := fr_set W ⟨g, i, none⟩ u
  refine ⟨h.ta.fr hF (fun k hk (e : k = g) => h.fr g hg (e ▸ hk)), Fr.below h.be h.be.size hF (fun k (e : k = g) => by rw [e]; exact (h.gl g hg).1), h.fr, fun k hk => by have := h.gl k hk; have := hF.size; omega, Kd.R_far h.rl (fun k hk (e : k = g) => hk.2 (e ▸ hg)) u⟩
theorem BW.app (h : BW w W G S p T v L) (hR : Kd.R (Kd.int .i64) 2 W1 w.heap.size (fun k => ¬ S k ∧ ¬ G k) v' L') (hg : W.grownBy W1 v.ownBlock) : BW w W1 G S p T v' L' ∧ ∀ k o, G k → W.heap[k]? = some o → W1.heap[k]? = some o := by
  have hb : ∀ k, v.ownBlock = some k → w.heap.size ≤ k ∧ ¬ S k ∧ ¬ G k := fun k e => ⟨Kd.R_base h.rl k e, h.rl.1 k e⟩
  have hF : Fr W W1 (fun k => v.ownBlock = some k) := Fr.of_grown hg (fun k e => e)
  exact ⟨⟨h.ta.fr hF (fun k hk e => (hb k e).2.1 hk), Fr.below h.be h.be.size hF (fun k e => (hb k e).1), h.fr, fun k hk => by have := h.gl k hk; have := hg.size; omega, hR⟩, fun k o hk ho => hF.blk ho (fun e => (hb k e).2.2 hk)⟩
theorem BW.fresh (h : BW w W G S p T v L) (k : Nat) (hk : W.heap.size ≤ k) : ¬ S k ∧ ¬ G k := ⟨fun e => by have := (h.ta.bd k e).2; omega, fun e => by have := (h.gl k e).2; omega⟩
end
end Go.Proofs.YtagkncjdohljgaaDoor.St
