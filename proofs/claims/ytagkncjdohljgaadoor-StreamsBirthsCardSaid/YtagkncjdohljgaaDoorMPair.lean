/- What one end sends the other gets: mirrored tables stay mirrored. In plain Lean; no condition but those in each statement. -/
import Derived.Test.YtagkncjdohljgaaDoorMTwo
namespace Go.Proofs.YtagkncjdohljgaaDoor.St
open Go Go.RowKit Go.Proofs.YtagkncjdohljgaaDoor.QL
set_option linter.unusedSimpArgs false
set_option linter.unusedVariables false
set_option maxHeartbeats 4000000
set_option maxRecDepth 100000
def mir (s : Int) : Int := if s = 1 then 2 else if s = 2 then 1 else if s = 4 then 5 else if s = 5 then 4 else s
theorem mir_mir (s : Int) : mir (mir s) = s := by
  unfold mir
  by_cases h1 : s = 1
  · subst h1; rfl
  by_cases h2 : s = 2
  · subst h2; rfl
  by_cases h4 : s = 4
  · subst h4; rfl
  by_cases h5 : s = 5
  · subst h5; rfl
  simp [h1, h2, h4, h5]
theorem mir_inj {a b : Int} (h : mir a = mir b) : a = b := by rw [← mir_mir a, h, mir_mir]
theorem mir_six (s : Int) : mir s = 6 ↔ s = 6 := ⟨fun h => mir_inj (h.trans rfl), fun h => by rw [h]; rfl⟩
theorem mir_zero (s : Int) : mir s = 0 ↔ s = 0 := ⟨fun h => mir_inj (h.trans rfl), fun h => by rw [h]; rfl⟩
theorem mir_cnt {s : Int} : cntS (mir s) = cntS s := by
  unfold mir cntS
  by_cases h1 : s = 1
  · subst h1; rfl
  by_cases h2 : s = 2
  · subst h2; rfl
  by_cases h4 : s = 4
  · subst h4; rfl
  by_cases h5 : s = 5
  · subst h5; rfl
  simp [h1, h2, h4, h5]
/-- The two tables of states, cell by cell. -/
theorem nx_pair (k s : Int) (h1 : 1 ≤ k) (h8 : k ≤ 8) (h0 : 0 ≤ s) (h6 : s ≤ 6) :
    ((nx false k s).2.1 = 0 ∨ (nx false k s).2.1 = 4) ∧ ((nx false k s).2.1 = 0 → ((nx true k (mir s)).2.1 = 0 ∨ (nx true k (mir s)).2.1 = 1) ∧ (nx true k (mir s)).1 = mir (nx false k s).1 ∧ ((nx true k (mir s)).2.1 = 1 → (nx true k (mir s)).1 = mir s)) := by
  obtain rfl | rfl | rfl | rfl | rfl | rfl | rfl : s = 0 ∨ s = 1 ∨ s = 2 ∨ s = 3 ∨ s = 4 ∨ s = 5 ∨ s = 6 := by omega
  all_goals
    obtain rfl | rfl | rfl | rfl | rfl | rfl | rfl | rfl : k = 1 ∨ k = 2 ∨ k = 3 ∨ k = 4 ∨ k = 5 ∨ k = 6 ∨ k = 7 ∨ k = 8 := by omega
    all_goals decide +kernel
theorem nx_reset (s : Int) (h0 : 0 ≤ s) (h6 : s ≤ 6) (h : (nx false 6 s).2.1 = 0) : (nx false 6 s).1 = 6 ∧ s ≠ 6 ∧ s ≠ 0 := by
  obtain rfl | rfl | rfl | rfl | rfl | rfl | rfl : s = 0 ∨ s = 1 ∨ s = 2 ∨ s = 3 ∨ s = 4 ∨ s = 5 ∨ s = 6 := by omega
  all_goals revert h; decide +kernel
theorem nx_idle (got : Bool) (k : Int) (h1 : 1 ≤ k) (h8 : k ≤ 8) (h : (nx got k 0).1 ≠ 0) : k = 1 ∨ k = 2 ∨ k = 5 := by
  obtain rfl | rfl | rfl | rfl | rfl | rfl | rfl | rfl : k = 1 ∨ k = 2 ∨ k = 3 ∨ k = 4 ∨ k = 5 ∨ k = 6 ∨ k = 7 ∨ k = 8 := by omega
  all_goals cases got <;> revert h <;> decide +kernel
theorem act_kind {T : Tb} (ho : TbOk T) (id : Int) (k : Int) : (T.act id false k).1.1 = 0 ∨ (T.act id false k).1.1 = 4 := by
  unfold Tb.act
  have hs := stt_range ho id
  split
  · exact Or.inr rfl
  · rename_i hk
    split
    · exact Or.inr rfl
    split
    · exact Or.inr rfl
    split
    · rename_i h; exact absurd h.2.1 (by simp)
    have h := (nx_pair k (T.stt id) (by omega) (by omega) hs.1 hs.2).1
    split
    · exact h
    · exact h
/-- What is not Fine changes nothing. -/
theorem act_same {T : Tb} (id : Int) (got : Bool) (k : Int) (h : (T.act id got k).1.1 ≠ 0) : (T.act id got k).2 = T := by
  unfold Tb.act at h ⊢
  split
  · rfl
  split
  · rfl
  split
  · rfl
  split
  · rfl
  split
  · rfl
  · rename_i h1 h2 h3 h4 h5
    rw [if_neg h1, if_neg h2, if_neg h3, if_neg h4, if_neg h5] at h
    exact absurd (Classical.byContradiction fun hc => h5 (Or.inl hc)) h
def CutOk (T : Tb) : Prop := ∀ id x, T.m id = some x → x.c = true → x.s = 6
theorem cut_closed {T : Tb} (ho : TbOk T) (hc : CutOk T) {id : Int} (h : T.cut id = true) : T.stt id = 6 := by
  unfold Tb.cut at h
  rcases hm : T.m id with _ | x
  · rw [hm] at h; cases h
  · rw [hm] at h
    rw [stt_some ho hm]
    exact hc id x hm h
theorem put_m (T : Tb) (id : Int) (x : Sx) (i : Int) : (T.put id x).m i = if i = id then some x else T.m i := rfl
theorem CutOk.act {T : Tb} (ho : TbOk T) (hc : CutOk T) (id : Int) (got : Bool) (k : Int) : CutOk (T.act id got k).2 := by
  have hs := stt_range ho id
  unfold Tb.act
  split
  · exact hc
  rename_i hk
  split
  · exact hc
  split
  · exact hc
  split
  · exact hc
  split
  · exact hc
  rename_i h5
  intro i x hx hcx
  rw [put_m] at hx
  split at hx
  · obtain rfl := Option.some.inj hx
    dsimp only at hcx ⊢
    have hv : (nx got k (T.stt id)).2.1 = 0 := Classical.byContradiction fun h => h5 (Or.inl h)
    rcases Bool.or_eq_true _ _ ▸ hcx with h | h
    · have h6 := cut_closed ho hc h
      rw [h6]
      exact nx_closed got k (by omega) (by omega)
    · have h1 : k = 6 := of_decide_eq_true ((Bool.and_eq_true _ _ ▸ h).1)
      have h2 : got = false := by have := (Bool.and_eq_true _ _ ▸ h).2; cases got <;> simp_all
      subst h1; subst h2
      exact (nx_reset _ hs.1 hs.2 hv).1
  · exact hc i x hx hcx
/-- The other end's table. -/
structure Mir (T U : Tb) : Prop where
  cl : U.cl = !T.cl
  l0 : U.l0 = T.l0
  l1 : U.l1 = T.l1
  m : ∀ id, (T.m id = none ∧ U.m id = none) ∨ ∃ x y, T.m id = some x ∧ U.m id = some y ∧ y.s = mir x.s
theorem Mir.new (c : Bool) : Mir (Tb.new c) (Tb.new !c) := ⟨rfl, rfl, rfl, fun _ => Or.inl ⟨rfl, rfl⟩⟩
theorem Mir.swap {T U : Tb} (h : Mir T U) : Mir U T := ⟨by rw [h.cl]; simp, h.l0.symm, h.l1.symm, fun id => (h.m id).imp (fun e => ⟨e.2, e.1⟩) (fun ⟨x, y, e1, e2, e3⟩ => ⟨y, x, e2, e1, by rw [e3, mir_mir]⟩)⟩
theorem Mir.stt {T U : Tb} (h : Mir T U) (id : Int) : U.stt id = mir (T.stt id) := by
  unfold Tb.stt
  have hl : U.last id = T.last id := by unfold Tb.last; rw [h.l0, h.l1]
  split
  · rcases h.m id with ⟨e1, e2⟩ | ⟨x, y, e1, e2, e3⟩
    · rw [e1, e2, hl]
      dsimp only
      split <;> rfl
    · rw [e1, e2]
      exact e3
  · rfl
theorem Mir.put {T U : Tb} (h : Mir T U) (id : Int) {x y : Sx} (hxy : y.s = mir x.s) : Mir (T.put id x) (U.put id y) := by
  have hn : (U.m id).isNone = (T.m id).isNone := by
    rcases h.m id with ⟨e1, e2⟩ | ⟨a, b, e1, e2, _⟩ <;> rw [e1, e2]
    rfl
  refine ⟨h.cl, ?_, ?_, fun i => ?_⟩
  · show (if (U.m id).isNone = true ∧ id % 2 = 0 then id else U.l0) = if (T.m id).isNone = true ∧ id % 2 = 0 then id else T.l0
    rw [hn, h.l0]
  · show (if (U.m id).isNone = true ∧ id % 2 = 1 then id else U.l1) = if (T.m id).isNone = true ∧ id % 2 = 1 then id else T.l1
    rw [hn, h.l1]
  · rw [put_m, put_m]
    by_cases e : i = id
    · rw [if_pos e, if_pos e]
      exact Or.inr ⟨x, y, rfl, rfl, hxy⟩
    · rw [if_neg e, if_neg e]
      exact h.m i
theorem gives_pair {T U : Tb} (h : U.cl = !T.cl) (id k : Int) : U.gives id true k = T.gives id false k := by
  unfold Tb.gives
  rw [h]
  cases T.cl <;> rfl
/-- One end sends, the other gets. -/
theorem pair_act {T U : Tb} (hm : Mir T U) (hT : TbOk T) (hU : TbOk U) (cT : CutOk T) (cU : CutOk U) (id k : Int) (h : (T.act id false k).1.1 = 0) :
    ((U.act id true k).1.1 = 0 ∨ (U.act id true k).1.1 = 1) ∧ Mir (T.act id false k).2 (U.act id true k).2 := by
  have hs := stt_range hT id
  have hst := hm.stt id
  unfold Tb.act at h ⊢
  split at h
  · cases h
  rename_i hk
  split at h
  · cases h
  rename_i hI
  split at h
  · cases h
  rename_i hg
  split at h
  · rename_i hc; exact absurd hc.2.1 (by simp)
  rename_i hc
  rw [if_neg hk, if_neg hI, if_neg hg, if_neg hc]
  have hv : (nx false k (T.stt id)).2.1 = 0 := by
    split at h <;> exact h
  obtain ⟨h1, h2, h3⟩ := (nx_pair k (T.stt id) (by omega) (by omega) hs.1 hs.2).2 hv
  rw [← hst] at h1 h2 h3
  have hg' : ¬ (U.stt id = 0 ∧ (k = 1 ∨ k = 2 ∨ k = 5) ∧ U.gives id true k = false) := by
    rw [hst, gives_pair hm.cl, mir_zero]
    exact hg
  rw [if_neg hk, if_neg hI, if_neg hg']
  clear h
  by_cases hcu : U.cut id = true ∧ (true : Bool) = true ∧ k ≠ 5
  · rw [if_pos hcu]
    have h6 := cut_closed hU cU hcu.1
    have hs6 : T.stt id = 6 := (mir_six _).1 (by rw [← hst, h6])
    have hn := nx_closed false k (by omega) (by omega)
    rw [if_pos (Or.inr (by rw [hs6]; exact hn))]
    exact ⟨Or.inr rfl, hm⟩
  · rw [if_neg hcu]
    by_cases he : (nx false k (T.stt id)).1 = T.stt id
    · rw [if_pos (Or.inr he)]
      rw [he, ← hst] at h2
      rw [if_pos (Or.inr h2)]
      exact ⟨h1, hm⟩
    · have hne : (nx true k (U.stt id)).1 ≠ U.stt id := fun e => he (mir_inj (by rw [← h2, e, hst]))
      have hv1 : (nx true k (U.stt id)).2.1 = 0 := by
        rcases h1 with e | e
        · exact e
        · exact absurd (by rw [h3 e, hst]) hne
      rw [if_neg (by rintro (e | e); exact e hv1; exact hne e), if_neg (by rintro (e | e); exact e hv; exact he e)]
      exact ⟨Or.inl hv1, hm.put id h2⟩
theorem Mir.live {T U : Tb} (h : Mir T U) {a b : List Int} (ha : LivL T a) (hb : LivL U b) : a = b := by
  refine sorted_ext ha.1 hb.1 fun x => ?_
  rw [ha.2 x, hb.2 x]
  unfold Tb.liveB
  rcases h.m x with ⟨e1, e2⟩ | ⟨u, v, e1, e2, e3⟩
  · rw [e1, e2]
  · rw [e1, e2]
    dsimp only
    rw [e3]
    simp [mir_six]
theorem nodup_len : ∀ (I K : List Int), I.Nodup → (∀ x ∈ I, x ∈ K) → I.length ≤ K.length
  | [], K, _, _ => Nat.zero_le _
  | x :: I, K, hn, h => by
    have hx : x ∈ K := h x (List.mem_cons_self ..)
    have h1 := (List.nodup_cons.1 hn).1
    have h2 := nodup_len I (K.erase x) (List.nodup_cons.1 hn).2 (fun y hy => (List.mem_erase_of_ne (fun (e : y = x) => h1 (by rw [← e]; exact hy))).2 (h y (List.mem_cons_of_mem _ hy)))
    have h3 := List.length_erase_of_mem hx
    have h4 := List.length_pos_of_mem hx
    rw [List.length_cons]
    omega
theorem Mir.count {T U : Tb} (h : Mir T U) (loc : Bool) {a b : List Int} (ha : CntL T loc a) (hb : CntL U (!loc) b) : a.length = b.length := by
  have hq : ∀ x, T.cntB loc x = U.cntB (!loc) x := fun x => by
    unfold Tb.cntB
    rcases h.m x with ⟨e1, e2⟩ | ⟨u, v, e1, e2, e3⟩
    · rw [e1, e2]
    · rw [e1, e2]
      dsimp only
      rw [e3, mir_cnt, h.cl]
      cases T.cl <;> cases loc <;> cases decide (x % 2 = 1) <;> rfl
  have hx : ∀ x, x ∈ a ↔ x ∈ b := fun x => by rw [ha.2 x, hb.2 x, hq x]
  exact Nat.le_antisymm (nodup_len a b ha.1 (fun x hm => (hx x).1 hm)) (nodup_len b a hb.1 (fun x hm => (hx x).2 hm))
theorem Mir.lastk {T U : Tb} (h : Mir T U) (loc : Bool) : U.lastk (!loc) = T.lastk loc := by
  unfold Tb.lastk
  rw [h.cl, h.l0, h.l1]
  cases T.cl <;> cases loc <;> rfl
end Go.Proofs.YtagkncjdohljgaaDoor.St
