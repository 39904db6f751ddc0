/- An event on the table: what it leaves. The package's variables hold what the program lays. -/
import Derived.Test.YtagkncjdohljgaaDoorMDoA
import Derived.Deep.DeepCutAuto
import Derived.Deep.CutBlock
namespace Go.Proofs.YtagkncjdohljgaaDoor.St
open Go Go.RowKit Go.Proofs.YtagkncjdohljgaaDoorW.PrintWords Go.Proofs.YtagkncjdohljgaaDoorW.PrintLast Go.Proofs.YtagkncjdohljgaaDoorW.PrintMore Go.Proofs.YtagkncjdohljgaaDoor.QL
set_option linter.unusedSimpArgs false
set_option linter.unusedVariables false
set_option maxHeartbeats 4000000
set_option maxRecDepth 100000
theorem stt_range {T : Tb} (h : TbOk T) (id : Int) : 0 ≤ T.stt id ∧ T.stt id ≤ 6 := by
  unfold Tb.stt
  split
  · split
    · rename_i x hx
      have := h.at_ id x hx
      omega
    · split <;> omega
  · omega
theorem nx_closed (got : Bool) (k : Int) (h1 : 1 ≤ k) (h8 : k ≤ 8) : (nx got k 6).1 = 6 := by
  obtain rfl | rfl | rfl | rfl | rfl | rfl | rfl | rfl : k = 1 ∨ k = 2 ∨ k = 3 ∨ k = 4 ∨ k = 5 ∨ k = 6 ∨ k = 7 ∨ k = 8 := by omega
  all_goals cases got <;> decide +kernel
theorem nx_range (got : Bool) (k s : Int) (h1 : 1 ≤ k) (h8 : k ≤ 8) (h0 : 0 ≤ s) (h6 : s ≤ 6) : 0 ≤ (nx got k s).1 ∧ (nx got k s).1 ≤ 6 ∧ ((nx got k s).1 = 0 → s = 0) := by
  obtain rfl | rfl | rfl | rfl | rfl | rfl | rfl : s = 0 ∨ s = 1 ∨ s = 2 ∨ s = 3 ∨ s = 4 ∨ s = 5 ∨ s = 6 := by omega
  all_goals
    obtain rfl | rfl | rfl | rfl | rfl | rfl | rfl | rfl : k = 1 ∨ k = 2 ∨ k = 3 ∨ k = 4 ∨ k = 5 ∨ k = 6 ∨ k = 7 ∨ k = 8 := by omega
    all_goals cases got <;> decide +kernel
theorem stt_none {T : Tb} {id : Int} (hI : In31 id) (h : T.m id = none) (h6 : T.stt id ≠ 6) : T.last id < id := by
  unfold Tb.stt at h6
  rw [if_pos hI, h] at h6
  dsimp only at h6
  split at h6
  · assumption
  · exact absurd rfl h6
theorem stt_some {T : Tb} (ho : TbOk T) {id : Int} {x : Sx} (h : T.m id = some x) : T.stt id = x.s := by
  unfold Tb.stt
  rw [if_pos (ho.in31 h), h]
/-- A birth keeps what is always so. -/
theorem TbOk.born {T : Tb} (h : TbOk T) {id : Int} (hI : In31 id) (hn : T.m id = none) (hl : T.last id < id) {x : Sx} (h1 : 1 ≤ x.s) (h6 : x.s ≤ 6) : TbOk (T.put id x) ∧ T.l0 + T.l1 + 1 ≤ (T.put id x).l0 + (T.put id x).l1 := by
  have b0 := h.b0
  have b1 := h.b1
  have e0 := h.e0
  have e1 := h.e1
  have hat := h.at_
  obtain ⟨i1, i2⟩ := hI
  have hlast : ∀ i, (T.put id x).last i = if i % 2 = id % 2 then id else T.last i := by
    intro i
    unfold Tb.put Tb.last
    rw [hn]
    simp only [Option.isNone_none, true_and]
    rcases par i1 with ⟨p1, _⟩ | ⟨p1, _⟩
    · rw [p1]
      by_cases e : i % 2 = 1
      · simp [e]
      · have e2 : i % 2 = 0 := by omega
        simp [e2]
    · rw [p1]
      by_cases e : i % 2 = 1
      · simp [e]
      · have e2 : i % 2 = 0 := by omega
        simp [e2]
  have hm : ∀ i, (T.put id x).m i = if i = id then some x else T.m i := fun i => rfl
  have hat' : ∀ i y, (T.put id x).m i = some y → 1 ≤ i ∧ i ≤ (T.put id x).last i ∧ 1 ≤ y.s ∧ y.s ≤ 6 := by
    intro i y hy
    rw [hm] at hy
    rw [hlast]
    by_cases e : i = id
    · subst e
      rw [if_pos rfl] at hy
      obtain rfl := Option.some.inj hy
      rw [if_pos rfl]
      exact ⟨i1, Int.le_refl _, h1, h6⟩
    · rw [if_neg e] at hy
      have h2 := hat i y hy
      split
      · rename_i hp
        have : T.last i = T.last id := by unfold Tb.last; rw [hp]
        omega
      · exact h2
  rcases par i1 with ⟨p1, _⟩ | ⟨p1, _⟩
  · have L0 : (T.put id x).l0 = id := by unfold Tb.put; rw [hn]; simp [p1]
    have L1 : (T.put id x).l1 = T.l1 := by unfold Tb.put; rw [hn]; simp [p1]
    have hlt : T.l0 < id := by unfold Tb.last at hl; rwa [if_neg (by omega)] at hl
    refine ⟨⟨by rw [L0]; omega, by rw [L1]; exact b1, hat', ?_, ?_⟩, by rw [L0, L1]; omega⟩
    · rw [L0]
      exact ⟨p1, Or.inr (by rw [hm, if_pos rfl]; simp)⟩
    · rw [L1]
      rcases e1 with e | ⟨ea, eb⟩
      · exact Or.inl e
      · refine Or.inr ⟨ea, ?_⟩
        rw [hm, if_neg (fun e => by rw [e] at ea; omega)]
        exact eb
  · have L0 : (T.put id x).l0 = T.l0 := by unfold Tb.put; rw [hn]; simp [p1]
    have L1 : (T.put id x).l1 = id := by unfold Tb.put; rw [hn]; simp [p1]
    have hlt : T.l1 < id := by unfold Tb.last at hl; rwa [if_pos p1] at hl
    refine ⟨⟨by rw [L0]; exact b0, by rw [L1]; omega, hat', ?_, ?_⟩, by rw [L0, L1]; omega⟩
    · rw [L0]
      refine ⟨e0.1, ?_⟩
      rcases e0.2 with e | e
      · exact Or.inl e
      · refine Or.inr ?_
        rw [hm, if_neg (fun e2 => by have := e0.1; rw [e2] at this; omega)]
        exact e
    · rw [L1]
      exact Or.inr ⟨p1, by rw [hm, if_pos rfl]; simp⟩
theorem TbOk.upd {T : Tb} (h : TbOk T) {id : Int} {y : Sx} (hn : T.m id = some y) {x : Sx} (h1 : 1 ≤ x.s) (h6 : x.s ≤ 6) : TbOk (T.put id x) ∧ (T.put id x).l0 = T.l0 ∧ (T.put id x).l1 = T.l1 := by
  have L0 : (T.put id x).l0 = T.l0 := by unfold Tb.put; rw [hn]; simp
  have L1 : (T.put id x).l1 = T.l1 := by unfold Tb.put; rw [hn]; simp
  have hm : ∀ i, (T.put id x).m i = if i = id then some x else T.m i := fun i => rfl
  have hlast : ∀ i, (T.put id x).last i = T.last i := fun i => by unfold Tb.last; rw [L0, L1]
  refine ⟨⟨by rw [L0]; exact h.b0, by rw [L1]; exact h.b1, fun i z hz => ?_, ?_, ?_⟩, L0, L1⟩
  · rw [hm] at hz
    rw [hlast]
    by_cases e : i = id
    · subst e
      rw [if_pos rfl] at hz
      obtain rfl := Option.some.inj hz
      have := h.at_ i y hn
      exact ⟨this.1, this.2.1, h1, h6⟩
    · rw [if_neg e] at hz
      exact h.at_ i z hz
  · rw [L0]
    refine ⟨h.e0.1, h.e0.2.imp (fun e => e) fun e => ?_⟩
    rw [hm]
    split
    · simp
    · exact e
  · rw [L1]
    refine h.e1.imp (fun e => e) fun e => ⟨e.1, ?_⟩
    rw [hm]
    split
    · simp
    · exact e.2
section
variable {W W8 : World} {base p g9 mb n : Nat} {S : Nat → Prop} {T : Tb} {id : Int} {x : Sx} {pt : Int → Option Nat} {b : Nat}
theorem tat_born (hm : MP W mb n pt) (hp : W.heap[p]? = some (.cells #[.bool T.cl, .map (some mb), .int .i64 T.l0, .int .i64 T.l1] 61 (0, 0)))
    (hn : ∀ id, T.m id = none → pt id = none) (hx : ∀ id x, T.m id = some x → ∃ b, pt id = some b ∧ W.heap[b]? = some (.cells #[.int .i64 x.s, .bool x.c] 73 (0, 0)) ∧ S b) (hi : ∀ i j b, pt i = some b → pt j = some b → i = j) (hmb : S mb) (sp : S p) (bd : ∀ k, S k → base ≤ k ∧ k < W.heap.size) (ok : TbOk T)
    (hI : In31 id) (hno : T.m id = none) (hl : T.last id < id) (h1 : 1 ≤ x.s) (h6 : x.s ≤ 6)
    (k : Fr W W8 (fun j => j = p ∨ j = mb)) (hg : W.heap.size ≤ g9) (hg8 : g9 < W8.heap.size)
    (a1 : W8.heap[p]? = some (.cells #[.bool T.cl, .map (some mb), .int .i64 (T.put id x).l0, .int .i64 (T.put id x).l1] 61 (0, 0))) (a2 : MP W8 mb ((T.l0 + T.l1).toNat + 1) (updP pt id g9)) (a3 : W8.heap[g9]? = some (.cells #[.int .i64 x.s, .bool x.c] 73 (0, 0))) :
    TAt W8 base (fun j => S j ∨ j = g9) p (T.put id x) := by
  obtain ⟨ok', hle⟩ := ok.born hI hno hl h1 h6
  have hm' : ∀ i, (T.put id x).m i = if i = id then some x else T.m i := fun i => rfl
  refine ⟨⟨mb, updP pt id g9, a1, a2.mono (by have := ok.b0; have := ok.b1; omega), fun i hi0 => ?_, fun i y hy => ?_, fun i j c hci hcj => ?_, Or.inl hmb⟩, Or.inl sp, fun j hj => ?_, ok'⟩
  · rw [hm'] at hi0
    split at hi0
    · cases hi0
    · rename_i e
      rw [updP_ne _ _ _ e]
      exact hn i hi0
  · rw [hm'] at hy
    by_cases e : i = id
    · subst e
      rw [if_pos rfl] at hy
      obtain rfl := Option.some.inj hy
      exact ⟨g9, updP_same _ _ _, a3, Or.inr rfl⟩
    · rw [if_neg e] at hy
      obtain ⟨b, h2, h3, h4⟩ := hx i y hy
      refine ⟨b, by rw [updP_ne _ _ _ e]; exact h2, k.blk h3 ?_, Or.inl h4⟩
      rintro (e1 | e1)
      · subst e1; rw [hp] at h3; simp at h3
      · subst e1; exact hm.kind h3
  · have hold : ∀ i c, pt i = some c → c < W.heap.size := fun i c hc => by
      rcases hmi : T.m i with _ | y
      · rw [hn i hmi] at hc; cases hc
      · obtain ⟨b, h2, h3, h4⟩ := hx i y hmi
        rw [h2] at hc
        obtain rfl := Option.some.inj hc
        exact (bd _ h4).2
    by_cases e : i = id
    · by_cases e2 : j = id
      · rw [e, e2]
      · rw [e, updP_same] at hci
        rw [updP_ne _ _ _ e2] at hcj
        have := hold j c hcj
        have := Option.some.inj hci
        omega
    · by_cases e2 : j = id
      · rw [e2, updP_same] at hcj
        rw [updP_ne _ _ _ e] at hci
        have := hold i c hci
        have := Option.some.inj hcj
        omega
      · rw [updP_ne _ _ _ e] at hci
        rw [updP_ne _ _ _ e2] at hcj
        exact hi i j c hci hcj
  · rcases hj with h | rfl
    · have := bd j h
      have := k.size
      omega
    · have := (bd _ sp).1
      have := (bd _ sp).2
      omega
theorem tat_upd (hm : MP W mb n pt) (hp : W.heap[p]? = some (.cells #[.bool T.cl, .map (some mb), .int .i64 T.l0, .int .i64 T.l1] 61 (0, 0)))
    (hmn : n = (T.l0 + T.l1).toNat) (hn : ∀ id, T.m id = none → pt id = none) (hx : ∀ id x, T.m id = some x → ∃ b, pt id = some b ∧ W.heap[b]? = some (.cells #[.int .i64 x.s, .bool x.c] 73 (0, 0)) ∧ S b) (hi : ∀ i j b, pt i = some b → pt j = some b → i = j) (hmb : S mb) (sp : S p) (bd : ∀ k, S k → base ≤ k ∧ k < W.heap.size) (ok : TbOk T)
    {y : Sx} (hno : T.m id = some y) (hpt : pt id = some b) (h1 : 1 ≤ x.s) (h6 : x.s ≤ 6)
    (k : Fr W W8 (fun j => j = b)) (a3 : W8.heap[b]? = some (.cells #[.int .i64 x.s, .bool x.c] 73 (0, 0))) :
    TAt W8 base S p (T.put id x) := by
  obtain ⟨ok', L0, L1⟩ := ok.upd hno h1 h6
  have hm' : ∀ i, (T.put id x).m i = if i = id then some x else T.m i := fun i => rfl
  obtain ⟨b', hb1, hb2, hb3⟩ := hx id y hno
  rw [hpt] at hb1
  obtain rfl := Option.some.inj hb1
  have hpb : p ≠ b := fun e => by subst e; rw [hp] at hb2; simp at hb2
  have hmbb : mb ≠ b := fun e => by subst e; exact hm.kind hb2
  refine ⟨⟨mb, pt, ?_, ?_, fun i hi0 => ?_, fun i z hz => ?_, hi, hmb⟩, sp, fun j hj => ⟨(bd j hj).1, Nat.lt_of_lt_of_le (bd j hj).2 k.size⟩, ok'⟩
  · rw [L0, L1]
    exact k.blk hp hpb
  · rw [L0, L1, ← hmn]
    exact hm.move (k.block mb (bd _ hmb).2 hmbb) k.size
  · rw [hm'] at hi0
    split at hi0
    · cases hi0
    · exact hn i hi0
  · rw [hm'] at hz
    by_cases e : i = id
    · subst e
      rw [if_pos rfl] at hz
      obtain rfl := Option.some.inj hz
      exact ⟨b, hpt, a3, hb3⟩
    · rw [if_neg e] at hz
      obtain ⟨c, h2, h3, h4⟩ := hx i z hz
      exact ⟨c, h2, k.blk h3 (fun e1 => e (hi i id b (by rw [h2, e1]) hpt)), h4⟩
end
end Go.Proofs.YtagkncjdohljgaaDoor.St
