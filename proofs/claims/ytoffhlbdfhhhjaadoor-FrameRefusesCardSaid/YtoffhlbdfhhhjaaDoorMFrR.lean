/- Frames out of bytes: Read tells the plain answer. The frame lies in a block of the call's own. -/
import Derived.Test.YtoffhlbdfhhhjaaDoorMFrV
namespace Go.Proofs.YtoffhlbdfhhhjaaDoor.Fr
open Go Go.RowKit Go.Proofs.YtoffhlbdfhhhjaaDoorW.PrintWords Go.Proofs.YtoffhlbdfhhhjaaDoorW.PrintLast Go.Proofs.YtoffhlbdfhhhjaaDoorW.PrintMore Go.Proofs.YtoffhlbdfhhhjaaDoor.QL
set_option linter.unusedSimpArgs false
set_option linter.unusedVariables false
set_option maxHeartbeats 40000000
set_option maxRecDepth 100000
/-- The payload's length, as the head says. -/
def rdN (b : ByteArray) : Int := num (b.extract 0 3)
/-- The frame that the head tells. -/
def rd0 (b : ByteArray) : Fr := { Fr.zero with ty := bt b 3, fl := Go.bits .and .i64 (bt b 4) (kFl (bt b 3)), st := num (b.extract 5 9) % 2147483648 }
structure Rd where
  fr : Fr
  no : Int
  code : Int
  st : Int
def Rd.bad (c : Int) : Rd := ⟨Fr.zero, 0, c, 0⟩
/-- What the frame f, of m bytes, is with its payload p. -/
def rdRest (f : Fr) (m : Int) (p : ByteArray) : Rd :=
  if stB f.ty f.st = false then .bad 1
  else if m < aheadI f then .bad 6
  else if padB f = true ∧ m - aheadI f < bt p 0 then .bad 1
  else match takes (if padB f = true then { f with pad := bt p 0 } else f) (if padB f = true then p.extract 1 (m - bt p 0).toNat else p) with
    | none => if f.ty = 2 then ⟨Fr.zero, 9 + m, 6, f.st⟩ else .bad 6
    | some f' => ⟨f', 9 + m, 0, 0⟩
/-- What Read tells. -/
def rdF (b : ByteArray) (most : Int) : Rd :=
  if b.size < 9 then .bad 0
  else if min (max most 16384) 65536 < rdN b then .bad 6
  else if (b.size : Int) - 9 < rdN b then .bad 0
  else rdRest (rd0 b) (rdN b) (b.extract 9 (9 + (rdN b).toNat))
/-- An answer of Read. -/
def RdPost (w : World) (r : Rd) (e : Ending) (w' : World) : Prop := ∃ A c, e = .returned (.tuple #[.agg (r.fr.cells A c), .int .i64 r.no, .agg #[.int .i64 r.code, .int .i64 r.st]]) ∧ Kd.R k32 32 w' w.heap.size (fun _ => True) (.slice A r.fr.ps.length c) r.fr.ps ∧ Below w.heap.size w w'
theorem RdPost.zero {w w' : World} {e : Ending} (no code st : Int) (h : e = .returned (.tuple #[.agg (Fr.zero.cells none 0), .int .i64 no, .agg #[.int .i64 code, .int .i64 st]])) (hb : Below w.heap.size w w') : RdPost w ⟨Fr.zero, no, code, st⟩ e w' := ⟨none, 0, h, Kd.R_nil _ _ _ _ _, hb⟩
theorem res20 (tmps : Array Value) (W : World) (g4 g6 : Nat) (f : Fr) (A : Option Addr) (c : Nat) (no code st : Int) (h4 : tmps.getD 4 undef = .pointer (some ⟨g4, 0, none⟩)) (h5 : tmps.getD 5 undef = .int .i64 no) (h6 : tmps.getD 6 undef = .pointer (some ⟨g6, 0, none⟩)) (hf : At W g4 f A c) (he : W.heap[g6]? = some (.cells #[.int .i64 code, .int .i64 st] 35 (0, 0))) :
    (results Tryd.f20 tmps).run Tryd.prog W = .ok (.tuple #[.agg (f.cells A c), .int .i64 no, .agg #[.int .i64 code, .int .i64 st]]) W := by
  have r1 := run_loadVar_row (P := Tryd.prog) W g4 24 24 (f.cells A c) (0, 0) _ hf Tryd.underlying24 (by rfl) (by kernel_rfl)
  have r2 := run_loadVar_row (P := Tryd.prog) W g6 35 35 #[.int .i64 code, .int .i64 st] (0, 0) _ he Tryd.underlying35 (by rfl) (by kernel_rfl)
  have e : Tryd.f20.results = #[.cell 4 24, .tmp 5, .cell 6 35] := rfl
  simp only [Array.getD_eq_getD_getElem?] at h4 h5 h6
  simp [results, e, h4, h5, h6, asAddr, Sem.run_bind, r1, r2]
theorem zero_new (w : World) : At (w.alloc (.cells #[.int .i64 0, .int .i64 0, .int .i64 0, .string ⟨#[]⟩, .int .i64 0, .int .i64 0, .bool false, .int .i64 0, .int .i64 0, .int .i64 0, .slice none 0 0] 24)) w.heap.size Fr.zero none 0 := blk_new w _
/-- A whole row is laid. -/
theorem row_store (W : World) (g : Nat) (new : Array Value) (t : TypeId) (old : Array Value) (hg : W.heap[g]? = some (.cells old t (0, 0))) : ∃ W', W.setRow g new = W' ∧ W'.heap[g]? = some (.cells new t (0, 0)) ∧ (∀ k : Nat, k ≠ g → W'.heap[k]? = W.heap[k]?) ∧ ∀ B w, Below B w W → B ≤ g → Below B w W' :=
  ⟨_, rfl, setRow_heap W g old new t (0, 0) hg, fun k hk => setRow_other W g k new hk, fun B w hb h => ⟨hb.os, hb.tape, hb.output, by rw [setRow_size]; exact hb.size, fun k hk => (setRow_other W g k new (by omega)).trans (hb.block k hk)⟩⟩
theorem read_short (b : ByteArray) (most : Int) (w : World) (hs : b.size < 9) : Calls Tryd.prog 20 #[.string b, .int .i64 most] w fun e w' => RdPost w (.bad 0) e w' := by
  have hs1 : decide ((b.size : Int) < 9) = true := decide_eq_true (by omega)
  have HB := Aside0.mk (Below.refl w.heap.size w)
  clear hs
  go_enter Tryd.func20, Tryd.ntmps20
  go_wp2_with fail
  exact bodyPost_ret (res20 _ _ _ _ _ _ _ 0 0 0 rfl rfl rfl ((zero_new w).low (below_alloc (Below.refl _ _) _)) (heap_alloc2_new _ _ _)) rfl (RdPost.zero 0 0 0 rfl (below_alloc (below_alloc HB.out _) _))
theorem read_long (b : ByteArray) (most : Int) (w : World) (hs : 9 ≤ b.size) (hl : min (max most 16384) 65536 < rdN b) : Calls Tryd.prog 20 #[.string b, .int .i64 most] w fun e w' => RdPost w (.bad 6) e w' := by
  have hs1 : decide ((b.size : Int) < 9) = false := decide_eq_false (by omega)
  have HS := Aside0.mk hs
  have HB := Aside0.mk (Below.refl w.heap.size w)
  have HSZ : Aside0 ((b.extract 0 3).size ≤ 4) := ⟨by simp; omega⟩
  have b3 : (3 : Int) ≤ (b.size : Int) := by omega
  obtain ⟨n, hn⟩ : ∃ n, rdN b = n := ⟨_, rfl⟩
  rw [hn] at hl
  have HN : Aside0 (num (b.extract 0 3) = n) := ⟨hn⟩
  clear hs hn
  have hl1 : decide (min (max most 16384) 65536 < n) = true := decide_eq_true hl
  clear hl
  go_enter Tryd.func20, Tryd.ntmps20
  go_upto_region 3 with fail
  obtain ⟨W1, hW1⟩ : ∃ W, (w.alloc (.cells #[.int .i64 0, .int .i64 0, .int .i64 0, .string ⟨#[]⟩, .int .i64 0, .int .i64 0, .bool false, .int .i64 0, .int .i64 0, .int .i64 0, .slice none 0 0] 24)).alloc (.cells #[.int .i64 0, .int .i64 0] 35) = W := ⟨_, rfl⟩
  have Z4 : Aside0 (At W1 w.heap.size Fr.zero none 0) := ⟨by rw [← hW1]; exact (zero_new w).low (below_alloc (Below.refl _ _) _)⟩
  have Z6 : Aside0 (W1.heap[w.heap.size + 1]? = some (.cells #[.int .i64 0, .int .i64 0] 35 (0, 0))) := ⟨by rw [← hW1]; exact heap_alloc2_new _ _ _⟩
  have L1 : Aside0 (Below w.heap.size w W1) := ⟨by rw [← hW1]; exact below_alloc (below_alloc HB.out _) _⟩
  obtain ⟨g4, hg4⟩ : ∃ g, w.heap.size = g := ⟨_, rfl⟩
  obtain ⟨g6, hg6⟩ : ∃ g, g4 + 1 = g := ⟨_, rfl⟩
  rw [hW1, hg4, hg6]
  rw [hg4] at Z4 Z6
  rw [hg6] at Z6
  have HG4 := Aside0.mk hg4
  have HG6 := Aside0.mk hg6
  clear hW1 hg4 hg6 HB
  go_wp2_with (first | (go_at_call 56; refine (got_below (b.extract 0 3) n _ HSZ.out HN.out).mono ?_; rintro e w3 ⟨rfl, hb⟩; have Y4 := Aside0.mk (Z4.out.low hb); have Y6 := Aside0.mk (blk_below Z6.out hb); have L3 := Aside0.mk (below_then L1.out L1.out.size hb); clear hb) | (refine wpList_store_row rfl 24 _ _ rfl g4 #[.int .i64 0, .int .i64 0, .int .i64 0, .string ⟨#[]⟩, .int .i64 0, .int .i64 0, .bool false, .int .i64 0, .int .i64 0, .int .i64 0, .slice none 0 0] rfl rfl 24 _ Y4.out (by kernel_rfl) (by kernel_rfl) (by kernel_rfl) ?_; obtain ⟨W8, e8, q4, qo, qb⟩ := row_store _ g4 _ 24 _ Y4.out; rw [e8]; have Q4 := Aside0.mk q4; have Q6 := Aside0.mk ((qo _ (by have := HG6.out; omega)).trans Y6.out); have QO := Aside0.mk qo; have QL := Aside0.mk (qb _ _ L3.out (by have := HG4.out; omega)); clear q4 qo qb e8) | (refine wpList_store_row rfl 35 _ _ rfl g6 #[.int .i64 6, .int .i64 0] rfl rfl 35 _ Q6.out (by kernel_rfl) (by kernel_rfl) (by kernel_rfl) ?_; obtain ⟨W9, e9, p6, po, pb⟩ := row_store _ g6 _ 35 _ Q6.out; rw [e9]; have R6 := Aside0.mk p6; have R4 := Aside0.mk ((po _ (by have := HG6.out; omega)).trans Q4.out); have PO := Aside0.mk po; have RL := Aside0.mk (pb _ _ QL.out (by have := HG4.out; have := HG6.out; omega)); clear p6 po pb e9))
  exact bodyPost_ret (res20 _ _ g4 g6 Fr.zero none 0 0 6 0 rfl rfl rfl R4.out R6.out) rfl (RdPost.zero 0 6 0 rfl RL.out)
theorem read_part (b : ByteArray) (most : Int) (w : World) (h63 : b.size ≤ 9223372036854775807) (hs : 9 ≤ b.size) (hl : ¬ min (max most 16384) 65536 < rdN b) (hp : (b.size : Int) - 9 < rdN b) : Calls Tryd.prog 20 #[.string b, .int .i64 most] w fun e w' => RdPost w (.bad 0) e w' := by
  have hs1 : decide ((b.size : Int) < 9) = false := decide_eq_false (by omega)
  have HS := Aside0.mk hs
  have HB := Aside0.mk (Below.refl w.heap.size w)
  have HSZ : Aside0 ((b.extract 0 3).size ≤ 4) := ⟨by simp; omega⟩
  have b3 : (3 : Int) ≤ (b.size : Int) := by omega
  obtain ⟨n, hn⟩ : ∃ n, rdN b = n := ⟨_, rfl⟩
  rw [hn] at hl hp
  have HN : Aside0 (num (b.extract 0 3) = n) := ⟨hn⟩
  clear hs hn
  have hl1 : decide (min (max most 16384) 65536 < n) = false := decide_eq_false hl
  have hp1 : decide ((b.size : Int) - 9 < n) = true := decide_eq_true hp
  clear hl hp
  go_enter Tryd.func20, Tryd.ntmps20
  go_upto_region 3 with fail
  obtain ⟨W1, hW1⟩ : ∃ W, (w.alloc (.cells #[.int .i64 0, .int .i64 0, .int .i64 0, .string ⟨#[]⟩, .int .i64 0, .int .i64 0, .bool false, .int .i64 0, .int .i64 0, .int .i64 0, .slice none 0 0] 24)).alloc (.cells #[.int .i64 0, .int .i64 0] 35) = W := ⟨_, rfl⟩
  have Z4 : Aside0 (At W1 w.heap.size Fr.zero none 0) := ⟨by rw [← hW1]; exact (zero_new w).low (below_alloc (Below.refl _ _) _)⟩
  have Z6 : Aside0 (W1.heap[w.heap.size + 1]? = some (.cells #[.int .i64 0, .int .i64 0] 35 (0, 0))) := ⟨by rw [← hW1]; exact heap_alloc2_new _ _ _⟩
  have L1 : Aside0 (Below w.heap.size w W1) := ⟨by rw [← hW1]; exact below_alloc (below_alloc HB.out _) _⟩
  obtain ⟨g4, hg4⟩ : ∃ g, w.heap.size = g := ⟨_, rfl⟩
  obtain ⟨g6, hg6⟩ : ∃ g, g4 + 1 = g := ⟨_, rfl⟩
  rw [hW1, hg4, hg6]
  rw [hg4] at Z4 Z6
  rw [hg6] at Z6
  have HG4 := Aside0.mk hg4
  have HG6 := Aside0.mk hg6
  clear hW1 hg4 hg6 HB
  go_wp2_with (first | (go_at_call 56; refine (got_below (b.extract 0 3) n _ HSZ.out HN.out).mono ?_; rintro e w3 ⟨rfl, hb⟩; have Y4 := Aside0.mk (Z4.out.low hb); have Y6 := Aside0.mk (blk_below Z6.out hb); have L3 := Aside0.mk (below_then L1.out L1.out.size hb); clear hb) | (refine wpList_store_row rfl 24 _ _ rfl g4 #[.int .i64 0, .int .i64 0, .int .i64 0, .string ⟨#[]⟩, .int .i64 0, .int .i64 0, .bool false, .int .i64 0, .int .i64 0, .int .i64 0, .slice none 0 0] rfl rfl 24 _ Y4.out (by kernel_rfl) (by kernel_rfl) (by kernel_rfl) ?_; obtain ⟨W8, e8, q4, qo, qb⟩ := row_store _ g4 _ 24 _ Y4.out; rw [e8]; have Q4 := Aside0.mk q4; have Q6 := Aside0.mk ((qo _ (by have := HG6.out; omega)).trans Y6.out); have QO := Aside0.mk qo; have QL := Aside0.mk (qb _ _ L3.out (by have := HG4.out; omega)); clear q4 qo qb e8) | (refine wpList_store_row rfl 35 _ _ rfl g6 #[.int .i64 0, .int .i64 0] rfl rfl 35 _ Q6.out (by kernel_rfl) (by kernel_rfl) (by kernel_rfl) ?_; obtain ⟨W9, e9, p6, po, pb⟩ := row_store _ g6 _ 35 _ Q6.out; rw [e9]; have R6 := Aside0.mk p6; have R4 := Aside0.mk ((po _ (by have := HG6.out; omega)).trans Q4.out); have PO := Aside0.mk po; have RL := Aside0.mk (pb _ _ QL.out (by have := HG4.out; have := HG6.out; omega)); clear p6 po pb e9))
  exact bodyPost_ret (res20 _ _ g4 g6 Fr.zero none 0 0 0 0 rfl rfl rfl R4.out R6.out) rfl (RdPost.zero 0 0 0 rfl RL.out)
theorem skip_row {P : Program} {ops : Array Oper} {oi : Oper} {a : Act} {w : World} {K : Act → World → Prop} {Q : Exit → Act → World → Prop} (ty : TypeId) (x y : Operand) (ho : oi.op = .store ty x y) (hw : Region.wanted oi (yielded ops a.tmps) = true) (hN : oi.dst = none)
    (g : Nat) (cells : Array Value) (hx : a.eval x = .pointer (some ⟨g, 0, none⟩)) (hy : a.eval y = .agg cells) (t : TypeId) (old : Array Value) (hg : w.heap[g]? = some (.cells old t (0, 0))) (hi : (P.info? ty).map (·.size) = some cells.size)
    (hold : old.size = cells.size) (h1 : cells.all (·.oneCell') = true) (h : K a (w.setRow g cells)) : if Region.wanted oi (yielded ops a.tmps) = true then Oper.wp P oi a w K Q else K (a.put none undef) w := by
  rw [if_pos hw]
  refine wp_store_row ty x y ho g cells hx hy t old hg hi hold h1 ?_
  rw [hN]
  exact h
/-- What a type's flags leave of a padded frame's. -/
theorem and8 (u k : Int) (h0 : 0 ≤ u) (h1 : u ≤ 255) (hk : k = 0 ∨ k = 1 ∨ k = 4) : has (Go.bits .and .i64 u k) 8 = false := by
  have h : ∀ n : Fin 256, has (Go.bits .and .i64 (n.val : Int) 0) 8 = false ∧ has (Go.bits .and .i64 (n.val : Int) 1) 8 = false ∧ has (Go.bits .and .i64 (n.val : Int) 4) 8 = false := by decide +kernel
  obtain ⟨n, rfl⟩ : ∃ n : Nat, u = n := ⟨u.toNat, by omega⟩
  have hn := h ⟨n, by omega⟩
  rcases hk with rfl | rfl | rfl
  · exact hn.1
  · exact hn.2.1
  · exact hn.2.2
theorem kFl8 (t u : Int) (ht : 0 ≤ t) (h0 : 0 ≤ u) (h1 : u ≤ 255) (h : has (Go.bits .and .i64 u (kFl t)) 8 = true) : has (kFl t) 8 = true := by
  by_cases hk : kFl t = 0 ∨ kFl t = 1 ∨ kFl t = 4
  · rw [and8 u _ h0 h1 hk] at h
    cases h
  · have : kFl t = 9 ∨ kFl t = 45 ∨ kFl t = 12 ∨ kFl t = 255 := by
      unfold kFl at hk ⊢
      repeat' split
      all_goals simp_all
    rcases this with e | e | e | e <;> rw [e] <;> decide
def aheadR (f : Fr) : Int := if f.ty = 1 ∧ has f.fl 32 = true then 5 else if f.ty = 5 then 4 else 0
theorem aheadR_nonneg (f : Fr) : 0 ≤ aheadR f ∧ aheadR f ≤ 5 := by unfold aheadR; repeat' split <;> omega
theorem aheadI_ge (f : Fr) : aheadR f ≤ aheadI f ∧ aheadI f ≤ 6 := by
  have h := aheadR_nonneg f
  unfold aheadI
  unfold aheadR at h ⊢
  split <;> omega
theorem aheadI_pad (f : Fr) (hp : padB f = true) (hk : has (kFl f.ty) 8 = true) : aheadI f = 1 + aheadR f := by
  unfold padB at hp
  simp only [Bool.and_eq_true, decide_eq_true_eq] at hp
  unfold aheadI aheadR
  rw [if_pos ⟨hp.2, hk, hp.1⟩]
theorem aheadR_1 (f : Fr) (h : f.ty = 1) (h2 : has f.fl 32 = true) : aheadR f = 5 := if_pos ⟨h, h2⟩
theorem aheadR_5 (f : Fr) (h : f.ty = 5) : aheadR f = 4 := by unfold aheadR; rw [if_neg (by omega), if_pos h]
theorem rdRest_pad (f : Fr) (m : Int) (p : ByteArray) (h1 : stB f.ty f.st = true) (h2 : ¬ m < aheadI f) (h3 : padB f = true ∧ m - aheadI f < bt p 0) : rdRest f m p = .bad 1 := by
  unfold rdRest
  rw [if_neg (by rw [h1]; decide), if_neg h2, if_pos h3]
theorem rdRest_none (f : Fr) (m : Int) (p : ByteArray) (f' : Fr) (p' : ByteArray) (h1 : stB f.ty f.st = true) (h2 : ¬ m < aheadI f) (h3 : ¬ (padB f = true ∧ m - aheadI f < bt p 0)) (h4 : (if padB f = true then { f with pad := bt p 0 } else f) = f') (h5 : (if padB f = true then p.extract 1 (m - bt p 0).toNat else p) = p') (h6 : takes f' p' = none) :
    rdRest f m p = if f.ty = 2 then ⟨Fr.zero, 9 + m, 6, f.st⟩ else .bad 6 := by
  unfold rdRest
  rw [if_neg (by rw [h1]; decide), if_neg h2, if_neg h3, h4, h5, h6]
theorem rdRest_some (f : Fr) (m : Int) (p : ByteArray) (f' : Fr) (p' : ByteArray) (f3 : Fr) (h1 : stB f.ty f.st = true) (h2 : ¬ m < aheadI f) (h3 : ¬ (padB f = true ∧ m - aheadI f < bt p 0)) (h4 : (if padB f = true then { f with pad := bt p 0 } else f) = f') (h5 : (if padB f = true then p.extract 1 (m - bt p 0).toNat else p) = p') (h6 : takes f' p' = some f3) :
    rdRest f m p = ⟨f3, 9 + m, 0, 0⟩ := by
  unfold rdRest
  rw [if_neg (by rw [h1]; decide), if_neg h2, if_neg h3, h4, h5, h6]
theorem cell_same {W W' : World} {g : Nat} (h : W'.heap[g]? = W.heap[g]?) (i : Nat) : W'.cell? ⟨g, i, none⟩ = W.cell? ⟨g, i, none⟩ := by simp [World.cell?, h]
/-- Taken, and laid beside the blocks below. -/
theorem rd_yes {w W1 W W9 : World} {g8 : Nat} {f2 : Fr} {A : Option Addr} {c : Nat} {no : Int} {e : Ending} (he : e = .returned (.tuple #[.agg (f2.cells A c), .int .i64 no, .agg #[.int .i64 0, .int .i64 0]])) (hR : Kd.R k32 32 W W1.heap.size (fun k => k ≠ g8) (.slice A f2.ps.length c) f2.ps) (hL1 : w.heap.size ≤ W1.heap.size)
    (hs : ∀ k, W1.heap.size ≤ k → W9.heap[k]? = W.heap[k]?) (hL : Below w.heap.size w W9) : RdPost w ⟨f2, no, 0, 0⟩ e W9 :=
  ⟨A, c, he, Kd.R_lower (Kd.R_mono (Kd.R_step (Kd.R_bound hR) (fun k hk _ => hs k hk.2.1)) (fun _ _ => trivial)) hL1, hL⟩
end Go.Proofs.YtoffhlbdfhhhjaaDoor.Fr
