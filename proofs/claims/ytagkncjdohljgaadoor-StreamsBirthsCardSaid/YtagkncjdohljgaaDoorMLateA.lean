/- What StreamsLate and StreamsEnds hold while they run. In plain Lean but for the tables' memory. -/
import Derived.Test.YtagkncjdohljgaaDoorMPair
namespace Go.Proofs.YtagkncjdohljgaaDoor.St
open Go Go.RowKit Go.Proofs.YtagkncjdohljgaaDoorW.PrintWords Go.Proofs.YtagkncjdohljgaaDoorW.PrintLast Go.Proofs.YtagkncjdohljgaaDoorW.PrintMore Go.Proofs.YtagkncjdohljgaaDoor.QL
set_option linter.unusedSimpArgs false
set_option linter.unusedVariables false
set_option maxHeartbeats 4000000
set_option maxRecDepth 100000
/-- A mirrored pair. -/
structure PW (w : World) (base : Nat) (S1 : Nat → Prop) (p1 : Nat) (T : Tb) (S2 : Nat → Prop) (p2 : Nat) (U : Tb) : Prop where
  tw : Tw w base S1 p1 T S2 p2 U
  mi : Mir T U
  c1 : CutOk T
  c2 : CutOk U
section
variable {w w1 w2 : World} {base p1 p2 : Nat} {S1 S2 : Nat → Prop} {T U : Tb} {id k : Int}
theorem PW.swap (h : PW w base S1 p1 T S2 p2 U) : PW w base S2 p2 U S1 p1 T := ⟨h.tw.swap, h.mi.swap, h.c2, h.c1⟩
theorem PW.low (h : PW w base S1 p1 T S2 p2 U) (hb : Below w.heap.size w w1) : PW w1 base S1 p1 T S2 p2 U := ⟨h.tw.low hb, h.mi, h.c1, h.c2⟩
/-- What is refused changes nothing. -/
theorem PW.no (h : PW w base S1 p1 T S2 p2 U) (hd : DoPost w w1 base S1 p1 (T.act id false k).2) (hv : (T.act id false k).1.1 ≠ 0) : ∃ S', PW w1 base S' p1 T S2 p2 U ∧ Fr w w1 S1 := by
  rw [act_same id false k hv] at hd
  obtain ⟨S', h1, h2⟩ := h.tw.act hd
  exact ⟨S', ⟨h1, h.mi, h.c1, h.c2⟩, h2⟩
/-- What goes goes at both ends. -/
theorem PW.yes (h : Tw w base S1 p1 T S2 p2 U) (hm : Mir T U) (c1 : CutOk T) (c2 : CutOk U) (hv : (T.act id false k).1.1 = 0) {S3 : Nat → Prop} (ht : Tw w1 base S3 p1 (T.act id false k).2 S2 p2 U) (hd : DoPost w1 w2 base S2 p2 (U.act id true k).2) : ∃ S', PW w2 base S3 p1 (T.act id false k).2 S' p2 (U.act id true k).2 ∧ Fr w1 w2 S2 := by
  obtain ⟨S', h1, h2⟩ := ht.swap.act hd
  exact ⟨S', ⟨h1.swap, (pair_act hm h.a.ok h.b.ok c1 c2 id k hv).2, c1.act h.a.ok id false k, c2.act h.b.ok id true k⟩, h2⟩
end
theorem reset_sent {T : Tb} (ho : TbOk T) {id : Int} (h : (T.act id false 6).1.1 = 0) : In31 id ∧ (T.act id false 6).2.cut id = true ∧ (T.act id false 6).2.stt id = 6 ∧ ∃ x, T.m id = some x := by
  have hs := stt_range ho id
  unfold Tb.act at h ⊢
  split at h
  · cases h
  rename_i hk
  split at h
  · cases h
  rename_i hI
  split at h
  · cases h
  rename_i hg
  split at h
  · rename_i hc; exact absurd hc.2.1 (by simp)
  rename_i hc
  rw [if_neg hk, if_neg hI, if_neg hg, if_neg hc]
  have hv : (nx false 6 (T.stt id)).2.1 = 0 := by split at h <;> exact h
  obtain ⟨h1, h2, h3⟩ := nx_reset _ hs.1 hs.2 hv
  have hI' := Classical.not_not.mp hI
  rw [if_neg (by rintro (e | e); exact e hv; exact h2 (by rw [← e, h1]))]
  refine ⟨hI', ?_, ?_, ?_⟩
  · show (match (if id = id then some (⟨(nx false 6 (T.stt id)).1, T.cut id || (decide ((6 : Int) = 6) && !false)⟩ : Sx) else T.m id) with | some x => x.c | none => false) = true
    rw [if_pos rfl]
    simp
  · unfold Tb.stt
    rw [if_pos hI', put_m, if_pos rfl]
    exact h1
  · rcases hm : T.m id with _ | x
    · exfalso
      unfold Tb.stt at h2 h3
      rw [if_pos hI', hm] at h2 h3
      dsimp only at h2 h3
      split at h2
      · rename_i hl; rw [if_pos hl] at h3; exact h3 rfl
      · exact h2 rfl
    · exact ⟨x, rfl⟩
theorem Mir.born {T U : Tb} (h : Mir T U) {id : Int} (hx : ∃ x, T.m id = some x) : ∃ y, U.m id = some y := by
  obtain ⟨x, hx⟩ := hx
  rcases h.m id with ⟨e, _⟩ | ⟨_, y, _, e, _⟩
  · rw [hx] at e; cases e
  · exact ⟨y, e⟩
theorem born_act {T : Tb} {id : Int} (h : ∃ y, T.m id = some y) (got : Bool) (k : Int) : ∃ y, (T.act id got k).2.m id = some y := by
  unfold Tb.act
  split
  · exact h
  split
  · exact h
  split
  · exact h
  split
  · exact h
  split
  · exact h
  · exact ⟨_, by rw [put_m, if_pos rfl]⟩
/-- What is sent on a stream that was born is no promise. -/
theorem sent_born {U : Tb} (ho : TbOk U) {id k : Int} (hb : ∃ y, U.m id = some y) (h : (U.act id false k).1.1 = 0) : 1 ≤ k ∧ k ≤ 8 ∧ k ≠ 5 := by
  obtain ⟨y, hy⟩ := hb
  have hs := ho.at_ id y hy
  have hst := stt_some ho hy
  unfold Tb.act at h
  split at h
  · cases h
  rename_i hk
  refine ⟨by omega, by omega, fun e => ?_⟩
  subst e
  split at h
  · cases h
  split at h
  · cases h
  split at h
  · rename_i hc; exact absurd hc.2.1 (by simp)
  have hv : (nx false 5 (U.stt id)).2.1 = 0 := by split at h <;> exact h
  rw [hst] at hv
  have h1 := hs.2.2.1
  have h6 := hs.2.2.2
  obtain e | e | e | e | e | e : y.s = 1 ∨ y.s = 2 ∨ y.s = 3 ∨ y.s = 4 ∨ y.s = 5 ∨ y.s = 6 := by omega
  all_goals rw [e] at hv; revert hv; decide +kernel
/-- What comes late is ignored. -/
theorem late_ignored {T : Tb} {id k : Int} (hI : In31 id) (hc : T.cut id = true) (h6 : T.stt id = 6) (hk : 1 ≤ k ∧ k ≤ 8 ∧ k ≠ 5) : T.act id true k = ((1, 0), T) := by
  unfold Tb.act
  rw [if_neg (by omega), if_neg (fun h => h hI), if_neg (by rw [h6]; intro h; exact absurd h.1 (by decide)), if_pos ⟨hc, rfl, hk.2.2⟩]
theorem nx_got_reset (s : Int) (h1 : 1 ≤ s) (h6 : s ≤ 6) : (nx true 6 s).1 = 6 := by
  obtain rfl | rfl | rfl | rfl | rfl | rfl : s = 1 ∨ s = 2 ∨ s = 3 ∨ s = 4 ∨ s = 5 ∨ s = 6 := by omega
  all_goals decide +kernel
theorem nx_got_reset0 (s : Int) (h1 : 1 ≤ s) (h6 : s ≤ 6) : (nx true 6 s).2.1 = 0 ∨ s = 6 := by
  obtain rfl | rfl | rfl | rfl | rfl | rfl : s = 1 ∨ s = 2 ∨ s = 3 ∨ s = 4 ∨ s = 5 ∨ s = 6 := by omega
  all_goals decide +kernel
theorem reset_got {U : Tb} (ho : TbOk U) (hc : CutOk U) {id : Int} (hb : ∃ y, U.m id = some y) : (U.act id true 6).2.stt id = 6 := by
  obtain ⟨y, hy⟩ := hb
  have hs := ho.at_ id y hy
  have hst := stt_some ho hy
  have hI := ho.in31 hy
  unfold Tb.act
  rw [if_neg (by omega), if_neg (fun h => h hI), if_neg (by rw [hst]; intro h; omega)]
  by_cases h : U.cut id = true ∧ (true : Bool) = true ∧ (6 : Int) ≠ 5
  · rw [if_pos h]
    exact cut_closed ho hc h.1
  · rw [if_neg h]
    split
    · rename_i h2
      show U.stt id = 6
      rw [hst] at h2 ⊢
      rcases h2 with e | e
      · rcases nx_got_reset0 y.s hs.2.2.1 hs.2.2.2 with e2 | e2
        · exact absurd e2 e
        · exact e2
      · rw [← e]; exact nx_got_reset y.s hs.2.2.1 hs.2.2.2
    · unfold Tb.stt
      rw [if_pos hI, put_m, if_pos rfl]
      show (nx true 6 (U.stt id)).1 = 6
      rw [hst]
      exact nx_got_reset y.s hs.2.2.1 hs.2.2.2
theorem not_live {T : Tb} (ho : TbOk T) {id : Int} (h : T.stt id = 6) {L : List Int} (hL : LivL T L) : id ∉ L := fun hm => by
  have h1 := (hL.2 id).1 hm
  unfold Tb.liveB at h1
  rcases hx : T.m id with _ | x
  · rw [hx] at h1; cases h1
  · rw [hx] at h1
    have := of_decide_eq_true h1
    rw [stt_some ho hx] at h
    exact this h
/-- Two tables and a row of its own. -/
structure LW (w : World) (base : Nat) (S1 : Nat → Prop) (p1 : Nat) (T : Tb) (S2 : Nat → Prop) (p2 : Nat) (U : Tb) (v : Value) (L : List Int) : Prop where
  tw : Tw w base S1 p1 T S2 p2 U
  rl : Kd.R (Kd.int .i64) 2 w base (fun k => ¬ S1 k ∧ ¬ S2 k) v L
section
variable {w w1 : World} {base p1 p2 : Nat} {S1 S2 : Nat → Prop} {T T' U : Tb} {v : Value} {L : List Int}
theorem LW.swap (h : LW w base S1 p1 T S2 p2 U v L) : LW w base S2 p2 U S1 p1 T v L := ⟨h.tw.swap, Kd.R_mono h.rl (fun _ hk => ⟨hk.2, hk.1⟩)⟩
theorem LW.low (h : LW w base S1 p1 T S2 p2 U v L) (hb : Below w.heap.size w w1) : LW w1 base S1 p1 T S2 p2 U v L := ⟨h.tw.low hb, Kd.R_below h.rl hb⟩
theorem LW.act (h : LW w base S1 p1 T S2 p2 U v L) (hd : DoPost w w1 base S1 p1 T') : ∃ S', LW w1 base S' p1 T' S2 p2 U v L ∧ Fr w w1 S1 := by
  obtain ⟨S', h1, h2, h3⟩ := hd
  refine ⟨S', ⟨⟨h1, h.tw.b.fr h2 (fun k hk e => h.tw.ap k e hk), fun k hk e => ?_⟩, ?_⟩, h2⟩
  · rcases h3 k hk with h4 | h4
    · exact h.tw.ap k h4 e
    · have := (h.tw.b.bd k e).2
      omega
  · refine Kd.R_mono (Kd.R_step (Kd.R_bound h.rl) (fun k hk hlt => h2.block k hlt hk.1.1)) (fun k hk => ⟨fun e => ?_, hk.1.2⟩)
    rcases h3 k e with h4 | h4
    · exact hk.1.1 h4
    · have := hk.2.2.1
      omega
end
theorem in_l0 (l : List Int) (x : Int) (hl : l.length ≤ 9223372036854775807) : ∀ (n i : Nat), l.length - i < n → i ≤ l.length → heraldlaw11_in.l0 n l x (i : Int) = some (decide (x ∈ l.drop i))
  | 0, i, h, _ => by omega
  | n + 1, i, h, hi => by
    unfold heraldlaw11_in.l0
    by_cases hx : i < l.length
    · have e : l.drop i = l[i] :: l.drop (i + 1) := List.drop_eq_getElem_cons hx
      have e2 : rd l (i : Int) = l[i] := by
        unfold rd
        rw [Int.toNat_natCast, List.getD_eq_getElem?_getD, List.getElem?_eq_getElem hx]
        rfl
      rw [if_pos (by omega), if_pos (by omega), e2, e]
      by_cases h2 : l[i] = x
      · rw [if_pos h2, h2]
        simp
      · rw [if_neg h2, wrap_succ (by omega), in_l0 l x hl n (i + 1) (by omega) (by omega)]
        have hne : ¬ x = l[i] := fun e => h2 e.symm
        simp only [List.mem_cons, hne, false_or]
    · rw [if_neg (by omega), List.drop_of_length_le (by omega)]
      simp
theorem in_calls (A : Option Addr) (c : Nat) (l : List Int) (x : Int) (w : World) (h1 : Kd.C (Kd.int .i64) w A l.length l) (h2 : l.length ≤ c) : Calls Tryd.prog 23 #[.slice A l.length c, .int .i64 x] w fun e w' => e = .returned (.bool (decide (x ∈ l))) ∧ Drawn0 w w' := by
  have hk : heraldlaw11_in.f (l.length + 1) l x = some (decide (x ∈ l)) := in_l0 l x h1.2.1 (l.length + 1) 0 (by omega) (by omega)
  exact heraldlaw11_in.calls (l.length + 1) A c l x _ w h1 h2 hk
end Go.Proofs.YtagkncjdohljgaaDoor.St
