/- Frames out of bytes: Read tells the plain answer. The package's variable holds what the program lays. -/
import Derived.Test.YtoffhlbdfhhhjaaDoorMFg2
namespace Go.Proofs.YtoffhlbdfhhhjaaDoor.Fr
open Go Go.RowKit Go.Proofs.YtoffhlbdfhhhjaaDoorW.PrintWords Go.Proofs.YtoffhlbdfhhhjaaDoorW.PrintLast Go.Proofs.YtoffhlbdfhhhjaaDoorW.PrintMore Go.Proofs.YtoffhlbdfhhhjaaDoor.QL
set_option linter.unusedSimpArgs false
set_option linter.unusedVariables false
set_option maxHeartbeats 40000000
set_option maxRecDepth 100000
/-- The payload's length, as the head says. -/
def rdN (b : ByteArray) : Int := num (b.extract 0 3)
/-- The frame that the head tells. -/
def rd0 (b : ByteArray) : Fr := { Fr.zero with ty := bt b 3, fl := Go.bits .and .i64 (bt b 4) (kFl (bt b 3)), st := num (b.extract 5 9) % 2147483648 }
structure Rd where
  fr : Fr
  no : Int
  code : Int
  st : Int
def Rd.bad (c : Int) : Rd := ⟨Fr.zero, 0, c, 0⟩
/-- What the frame f, of m bytes, is with its payload p. -/
def rdRest (f : Fr) (m : Int) (p : ByteArray) : Rd :=
  if stB f.ty f.st = false then .bad 1
  else if m < aheadI f then .bad 6
  else if padB f = true ∧ m - aheadI f < bt p 0 then .bad 1
  else match takes (if padB f = true then { f with pad := bt p 0 } else f) (if padB f = true then p.extract 1 (m - bt p 0).toNat else p) with
    | none => if f.ty = 2 then ⟨Fr.zero, 9 + m, 6, f.st⟩ else .bad 6
    | some f' => ⟨f', 9 + m, 0, 0⟩
/-- What Read tells. -/
def rdF (b : ByteArray) (most : Int) : Rd :=
  if b.size < 9 then .bad 0
  else if min (max most 16384) 65536 < rdN b then .bad 6
  else if (b.size : Int) - 9 < rdN b then .bad 0
  else rdRest (rd0 b) (rdN b) (b.extract 9 (9 + (rdN b).toNat))
/-- An answer of Read. -/
def RdPost (w : World) (r : Rd) (e : Ending) (w' : World) : Prop := ∃ A c, e = .returned (.tuple #[.agg (r.fr.cells A c), .int .i64 r.no, .agg #[.int .i64 r.code, .int .i64 r.st]]) ∧ Kd.R k32 32 w' w.heap.size (fun _ => True) (.slice A r.fr.ps.length c) r.fr.ps ∧ Below w.heap.size w w'
theorem RdPost.zero {w w' : World} {e : Ending} (no code st : Int) (h : e = .returned (.tuple #[.agg (Fr.zero.cells none 0), .int .i64 no, .agg #[.int .i64 code, .int .i64 st]])) (hb : Below w.heap.size w w') : RdPost w ⟨Fr.zero, no, code, st⟩ e w' := ⟨none, 0, h, Kd.R_nil _ _ _ _ _, hb⟩
theorem res20 (tmps : Array Value) (W : World) (g4 g6 : Nat) (f : Fr) (A : Option Addr) (c : Nat) (no code st : Int) (h4 : tmps.getD 4 undef = .pointer (some ⟨g4, 0, none⟩)) (h5 : tmps.getD 5 undef = .int .i64 no) (h6 : tmps.getD 6 undef = .pointer (some ⟨g6, 0, none⟩)) (hf : At W g4 f A c) (he : W.heap[g6]? = some (.cells #[.int .i64 code, .int .i64 st] 35 (0, 0))) :
    (results Tryd.f20 tmps).run Tryd.prog W = .ok (.tuple #[.agg (f.cells A c), .int .i64 no, .agg #[.int .i64 code, .int .i64 st]]) W := by
  have r1 := run_loadVar_row (P := Tryd.prog) W g4 24 24 (f.cells A c) (0, 0) _ hf Tryd.underlying24 (by rfl) (by kernel_rfl)
  have r2 := run_loadVar_row (P := Tryd.prog) W g6 35 35 #[.int .i64 code, .int .i64 st] (0, 0) _ he Tryd.underlying35 (by rfl) (by kernel_rfl)
  have e : Tryd.f20.results = #[.cell 4 24, .tmp 5, .cell 6 35] := rfl
  simp only [Array.getD_eq_getD_getElem?] at h4 h5 h6
  simp [results, e, h4, h5, h6, asAddr, Sem.run_bind, r1, r2]
theorem zero_new (w : World) : At (w.alloc (.cells #[.int .i64 0, .int .i64 0, .int .i64 0, .string ⟨#[]⟩, .int .i64 0, .int .i64 0, .bool false, .int .i64 0, .int .i64 0, .int .i64 0, .slice none 0 0] 24)) w.heap.size Fr.zero none 0 := blk_new w _
/-- A whole row is laid. -/
theorem row_store (W : World) (g : Nat) (new : Array Value) (t : TypeId) (old : Array Value) (hg : W.heap[g]? = some (.cells old t (0, 0))) : ∃ W', W.setRow g new = W' ∧ W'.heap[g]? = some (.cells new t (0, 0)) ∧ (∀ k : Nat, k ≠ g → W'.heap[k]? = W.heap[k]?) ∧ ∀ B w, Below B w W → B ≤ g → Below B w W' :=
  ⟨_, rfl, setRow_heap W g old new t (0, 0) hg, fun k hk => setRow_other W g k new hk, fun B w hb h => ⟨hb.os, hb.tape, hb.output, by rw [setRow_size]; exact hb.size, fun k hk => (setRow_other W g k new (by omega)).trans (hb.block k hk)⟩⟩
theorem read_short (b : ByteArray) (most : Int) (w : World) (hs : b.size < 9) : Calls Tryd.prog 20 #[.string b, .int .i64 most] w fun e w' => RdPost w (.bad 0) e w' := by
  have hs1 : decide ((b.size : Int) < 9) = true := decide_eq_true (by omega)
  have HB := Aside0.mk (Below.refl w.heap.size w)
  clear hs
  go_enter Tryd.func20, Tryd.ntmps20
  go_wp2_with fail
  exact bodyPost_ret (res20 _ _ _ _ _ _ _ 0 0 0 rfl rfl rfl ((zero_new w).low (below_alloc (Below.refl _ _) _)) (heap_alloc2_new _ _ _)) rfl (RdPost.zero 0 0 0 rfl (below_alloc (below_alloc HB.out _) _))
theorem read_long (b : ByteArray) (most : Int) (w : World) (hs : 9 ≤ b.size) (hl : min (max most 16384) 65536 < rdN b) : Calls Tryd.prog 20 #[.string b, .int .i64 most] w fun e w' => RdPost w (.bad 6) e w' := by
  have hs1 : decide ((b.size : Int) < 9) = false := decide_eq_false (by omega)
  have HS := Aside0.mk hs
  have HB := Aside0.mk (Below.refl w.heap.size w)
  have HSZ : Aside0 ((b.extract 0 3).size ≤ 4) := ⟨by simp; omega⟩
  have b3 : (3 : Int) ≤ (b.size : Int) := by omega
  obtain ⟨n, hn⟩ : ∃ n, rdN b = n := ⟨_, rfl⟩
  rw [hn] at hl
  have HN : Aside0 (num (b.extract 0 3) = n) := ⟨hn⟩
  clear hs hn
  have hl1 : decide (min (max most 16384) 65536 < n) = true := decide_eq_true hl
  clear hl
  go_enter Tryd.func20, Tryd.ntmps20
  go_upto_region 3 with fail
  obtain ⟨W1, hW1⟩ : ∃ W, (w.alloc (.cells #[.int .i64 0, .int .i64 0, .int .i64 0, .string ⟨#[]⟩, .int .i64 0, .int .i64 0, .bool false, .int .i64 0, .int .i64 0, .int .i64 0, .slice none 0 0] 24)).alloc (.cells #[.int .i64 0, .int .i64 0] 35) = W := ⟨_, rfl⟩
  have Z4 : Aside0 (At W1 w.heap.size Fr.zero none 0) := ⟨by rw [← hW1]; exact (zero_new w).low (below_alloc (Below.refl _ _) _)⟩
  have Z6 : Aside0 (W1.heap[w.heap.size + 1]? = some (.cells #[.int .i64 0, .int .i64 0] 35 (0, 0))) := ⟨by rw [← hW1]; exact heap_alloc2_new _ _ _⟩
  have L1 : Aside0 (Below w.heap.size w W1) := ⟨by rw [← hW1]; exact below_alloc (below_alloc HB.out _) _⟩
  obtain ⟨g4, hg4⟩ : ∃ g, w.heap.size = g := ⟨_, rfl⟩
  obtain ⟨g6, hg6⟩ : ∃ g, g4 + 1 = g := ⟨_, rfl⟩
  rw [hW1, hg4, hg6]
  rw [hg4] at Z4 Z6
  rw [hg6] at Z6
  have HG4 := Aside0.mk hg4
  have HG6 := Aside0.mk hg6
  clear hW1 hg4 hg6 HB
  go_wp2_with (first | (go_at_call 56; refine (got_below (b.extract 0 3) n _ HSZ.out HN.out).mono ?_; rintro e w3 ⟨rfl, hb⟩; have Y4 := Aside0.mk (Z4.out.low hb); have Y6 := Aside0.mk (blk_below Z6.out hb); have L3 := Aside0.mk (below_then L1.out L1.out.size hb); clear hb) | (refine wpList_store_row rfl 24 _ _ rfl g4 #[.int .i64 0, .int .i64 0, .int .i64 0, .string ⟨#[]⟩, .int .i64 0, .int .i64 0, .bool false, .int .i64 0, .int .i64 0, .int .i64 0, .slice none 0 0] rfl rfl 24 _ Y4.out (by kernel_rfl) (by kernel_rfl) (by kernel_rfl) ?_; obtain ⟨W8, e8, q4, qo, qb⟩ := row_store _ g4 _ 24 _ Y4.out; rw [e8]; have Q4 := Aside0.mk q4; have Q6 := Aside0.mk ((qo _ (by have := HG6.out; omega)).trans Y6.out); have QO := Aside0.mk qo; have QL := Aside0.mk (qb _ _ L3.out (by have := HG4.out; omega)); clear q4 qo qb e8) | (refine wpList_store_row rfl 35 _ _ rfl g6 #[.int .i64 6, .int .i64 0] rfl rfl 35 _ Q6.out (by kernel_rfl) (by kernel_rfl) (by kernel_rfl) ?_; obtain ⟨W9, e9, p6, po, pb⟩ := row_store _ g6 _ 35 _ Q6.out; rw [e9]; have R6 := Aside0.mk p6; have R4 := Aside0.mk ((po _ (by have := HG6.out; omega)).trans Q4.out); have PO := Aside0.mk po; have RL := Aside0.mk (pb _ _ QL.out (by have := HG4.out; have := HG6.out; omega)); clear p6 po pb e9))
  exact bodyPost_ret (res20 _ _ g4 g6 Fr.zero none 0 0 6 0 rfl rfl rfl R4.out R6.out) rfl (RdPost.zero 0 6 0 rfl RL.out)
theorem read_part (b : ByteArray) (most : Int) (w : World) (h63 : b.size ≤ 9223372036854775807) (hs : 9 ≤ b.size) (hl : ¬ min (max most 16384) 65536 < rdN b) (hp : (b.size : Int) - 9 < rdN b) : Calls Tryd.prog 20 #[.string b, .int .i64 most] w fun e w' => RdPost w (.bad 0) e w' := by
  have hs1 : decide ((b.size : Int) < 9) = false := decide_eq_false (by omega)
  have HS := Aside0.mk hs
  have HB := Aside0.mk (Below.refl w.heap.size w)
  have HSZ : Aside0 ((b.extract 0 3).size ≤ 4) := ⟨by simp; omega⟩
  have b3 : (3 : Int) ≤ (b.size : Int) := by omega
  obtain ⟨n, hn⟩ : ∃ n, rdN b = n := ⟨_, rfl⟩
  rw [hn] at hl hp
  have HN : Aside0 (num (b.extract 0 3) = n) := ⟨hn⟩
  clear hs hn
  have hl1 : decide (min (max most 16384) 65536 < n) = false := decide_eq_false hl
  have hp1 : decide ((b.size : Int) - 9 < n) = true := decide_eq_true hp
  clear hl hp
  go_enter Tryd.func20, Tryd.ntmps20
  go_upto_region 3 with fail
  obtain ⟨W1, hW1⟩ : ∃ W, (w.alloc (.cells #[.int .i64 0, .int .i64 0, .int .i64 0, .string ⟨#[]⟩, .int .i64 0, .int .i64 0, .bool false, .int .i64 0, .int .i64 0, .int .i64 0, .slice none 0 0] 24)).alloc (.cells #[.int .i64 0, .int .i64 0] 35) = W := ⟨_, rfl⟩
  have Z4 : Aside0 (At W1 w.heap.size Fr.zero none 0) := ⟨by rw [← hW1]; exact (zero_new w).low (below_alloc (Below.refl _ _) _)⟩
  have Z6 : Aside0 (W1.heap[w.heap.size + 1]? = some (.cells #[.int .i64 0, .int .i64 0] 35 (0, 0))) := ⟨by rw [← hW1]; exact heap_alloc2_new _ _ _⟩
  have L1 : Aside0 (Below w.heap.size w W1) := ⟨by rw [← hW1]; exact below_alloc (below_alloc HB.out _) _⟩
  obtain ⟨g4, hg4⟩ : ∃ g, w.heap.size = g := ⟨_, rfl⟩
  obtain ⟨g6, hg6⟩ : ∃ g, g4 + 1 = g := ⟨_, rfl⟩
  rw [hW1, hg4, hg6]
  rw [hg4] at Z4 Z6
  rw [hg6] at Z6
  have HG4 := Aside0.mk hg4
  have HG6 := Aside0.mk hg6
  clear hW1 hg4 hg6 HB
  go_wp2_with (first | (go_at_call 56; refine (got_below (b.extract 0 3) n _ HSZ.out HN.out).mono ?_; rintro e w3 ⟨rfl, hb⟩; have Y4 := Aside0.mk (Z4.out.low hb); have Y6 := Aside0.mk (blk_below Z6.out hb); have L3 := Aside0.mk (below_then L1.out L1.out.size hb); clear hb) | (refine wpList_store_row rfl 24 _ _ rfl g4 #[.int .i64 0, .int .i64 0, .int .i64 0, .string ⟨#[]⟩, .int .i64 0, .int .i64 0, .bool false, .int .i64 0, .int .i64 0, .int .i64 0, .slice none 0 0] rfl rfl 24 _ Y4.out (by kernel_rfl) (by kernel_rfl) (by kernel_rfl) ?_; obtain ⟨W8, e8, q4, qo, qb⟩ := row_store _ g4 _ 24 _ Y4.out; rw [e8]; have Q4 := Aside0.mk q4; have Q6 := Aside0.mk ((qo _ (by have := HG6.out; omega)).trans Y6.out); have QO := Aside0.mk qo; have QL := Aside0.mk (qb _ _ L3.out (by have := HG4.out; omega)); clear q4 qo qb e8) | (refine wpList_store_row rfl 35 _ _ rfl g6 #[.int .i64 0, .int .i64 0] rfl rfl 35 _ Q6.out (by kernel_rfl) (by kernel_rfl) (by kernel_rfl) ?_; obtain ⟨W9, e9, p6, po, pb⟩ := row_store _ g6 _ 35 _ Q6.out; rw [e9]; have R6 := Aside0.mk p6; have R4 := Aside0.mk ((po _ (by have := HG6.out; omega)).trans Q4.out); have PO := Aside0.mk po; have RL := Aside0.mk (pb _ _ QL.out (by have := HG4.out; have := HG6.out; omega)); clear p6 po pb e9))
  exact bodyPost_ret (res20 _ _ g4 g6 Fr.zero none 0 0 0 0 rfl rfl rfl R4.out R6.out) rfl (RdPost.zero 0 0 0 rfl RL.out)
theorem skip_row {P : Program} {ops : Array Oper} {oi : Oper} {a : Act} {w : World} {K : Act → World → Prop} {Q : Exit → Act → World → Prop} (ty : TypeId) (x y : Operand) (ho : oi.op = .store ty x y) (hw : Region.wanted oi (yielded ops a.tmps) = true) (hN : oi.dst = none)
    (g : Nat) (cells : Array Value) (hx : a.eval x = .pointer (some ⟨g, 0, none⟩)) (hy : a.eval y = .agg cells) (t : TypeId) (old : Array Value) (hg : w.heap[g]? = some (.cells old t (0, 0))) (hi : (P.info? ty).map (·.size) = some cells.size)
    (hold : old.size = cells.size) (h1 : cells.all (·.oneCell') = true) (h : K a (w.setRow g cells)) : if Region.wanted oi (yielded ops a.tmps) = true then Oper.wp P oi a w K Q else K (a.put none undef) w := by
  rw [if_pos hw]
  refine wp_store_row ty x y ho g cells hx hy t old hg hi hold h1 ?_
  rw [hN]
  exact h
/-- What a type's flags leave of a padded frame's. -/
theorem and8 (u k : Int) (h0 : 0 ≤ u) (h1 : u ≤ 255) (hk : k = 0 ∨ k = 1 ∨ k = 4) : has (Go.bits .and .i64 u k) 8 = false := by
  have h : ∀ n : Fin 256, has (Go.bits .and .i64 (n.val : Int) 0) 8 = false ∧ has (Go.bits .and .i64 (n.val : Int) 1) 8 = false ∧ has (Go.bits .and .i64 (n.val : Int) 4) 8 = false := by decide +kernel
  obtain ⟨n, rfl⟩ : ∃ n : Nat, u = n := ⟨u.toNat, by omega⟩
  have hn := h ⟨n, by omega⟩
  rcases hk with rfl | rfl | rfl
  · exact hn.1
  · exact hn.2.1
  · exact hn.2.2
theorem kFl8 (t u : Int) (ht : 0 ≤ t) (h0 : 0 ≤ u) (h1 : u ≤ 255) (h : has (Go.bits .and .i64 u (kFl t)) 8 = true) : has (kFl t) 8 = true := by
  by_cases hk : kFl t = 0 ∨ kFl t = 1 ∨ kFl t = 4
  · rw [and8 u _ h0 h1 hk] at h
    cases h
  · have : kFl t = 9 ∨ kFl t = 45 ∨ kFl t = 12 ∨ kFl t = 255 := by
      unfold kFl at hk ⊢
      repeat' split
      all_goals simp_all
    rcases this with e | e | e | e <;> rw [e] <;> decide
def aheadR (f : Fr) : Int := if f.ty = 1 ∧ has f.fl 32 = true then 5 else if f.ty = 5 then 4 else 0
theorem aheadR_nonneg (f : Fr) : 0 ≤ aheadR f ∧ aheadR f ≤ 5 := by unfold aheadR; repeat' split <;> omega
theorem aheadI_ge (f : Fr) : aheadR f ≤ aheadI f ∧ aheadI f ≤ 6 := by
  have h := aheadR_nonneg f
  unfold aheadI
  unfold aheadR at h ⊢
  split <;> omega
theorem aheadI_pad (f : Fr) (hp : padB f = true) (hk : has (kFl f.ty) 8 = true) : aheadI f = 1 + aheadR f := by
  unfold padB at hp
  simp only [Bool.and_eq_true, decide_eq_true_eq] at hp
  unfold aheadI aheadR
  rw [if_pos ⟨hp.2, hk, hp.1⟩]
theorem aheadR_1 (f : Fr) (h : f.ty = 1) (h2 : has f.fl 32 = true) : aheadR f = 5 := if_pos ⟨h, h2⟩
theorem aheadR_5 (f : Fr) (h : f.ty = 5) : aheadR f = 4 := by unfold aheadR; rw [if_neg (by omega), if_pos h]
theorem rdRest_pad (f : Fr) (m : Int) (p : ByteArray) (h1 : stB f.ty f.st = true) (h2 : ¬ m < aheadI f) (h3 : padB f = true ∧ m - aheadI f < bt p 0) : rdRest f m p = .bad 1 := by
  unfold rdRest
  rw [if_neg (by rw [h1]; decide), if_neg h2, if_pos h3]
theorem rdRest_none (f : Fr) (m : Int) (p : ByteArray) (f' : Fr) (p' : ByteArray) (h1 : stB f.ty f.st = true) (h2 : ¬ m < aheadI f) (h3 : ¬ (padB f = true ∧ m - aheadI f < bt p 0)) (h4 : (if padB f = true then { f with pad := bt p 0 } else f) = f') (h5 : (if padB f = true then p.extract 1 (m - bt p 0).toNat else p) = p') (h6 : takes f' p' = none) :
    rdRest f m p = if f.ty = 2 then ⟨Fr.zero, 9 + m, 6, f.st⟩ else .bad 6 := by
  unfold rdRest
  rw [if_neg (by rw [h1]; decide), if_neg h2, if_neg h3, h4, h5, h6]
theorem rdRest_some (f : Fr) (m : Int) (p : ByteArray) (f' : Fr) (p' : ByteArray) (f3 : Fr) (h1 : stB f.ty f.st = true) (h2 : ¬ m < aheadI f) (h3 : ¬ (padB f = true ∧ m - aheadI f < bt p 0)) (h4 : (if padB f = true then { f with pad := bt p 0 } else f) = f') (h5 : (if padB f = true then p.extract 1 (m - bt p 0).toNat else p) = p') (h6 : takes f' p' = some f3) :
    rdRest f m p = ⟨f3, 9 + m, 0, 0⟩ := by
  unfold rdRest
  rw [if_neg (by rw [h1]; decide), if_neg h2, if_neg h3, h4, h5, h6]
theorem cell_same {W W' : World} {g : Nat} (h : W'.heap[g]? = W.heap[g]?) (i : Nat) : W'.cell? ⟨g, i, none⟩ = W.cell? ⟨g, i, none⟩ := by simp [World.cell?, h]
/-- Taken, and laid beside the blocks below. -/
theorem rd_yes {w W1 W W9 : World} {g8 : Nat} {f2 : Fr} {A : Option Addr} {c : Nat} {no : Int} {e : Ending} (he : e = .returned (.tuple #[.agg (f2.cells A c), .int .i64 no, .agg #[.int .i64 0, .int .i64 0]])) (hR : Kd.R k32 32 W W1.heap.size (fun k => k ≠ g8) (.slice A f2.ps.length c) f2.ps) (hL1 : w.heap.size ≤ W1.heap.size)
    (hs : ∀ k, W1.heap.size ≤ k → W9.heap[k]? = W.heap[k]?) (hL : Below w.heap.size w W9) : RdPost w ⟨f2, no, 0, 0⟩ e W9 :=
  ⟨A, c, he, Kd.R_lower (Kd.R_mono (Kd.R_step (Kd.R_bound hR) (fun k hk _ => hs k hk.2.1)) (fun _ _ => trivial)) hL1, hL⟩
end Go.Proofs.YtoffhlbdfhhhjaaDoor.Fr
namespace Go.Proofs.YtoffhlbdfhhhjaaDoor.Fr
open Go Go.RowKit Go.Proofs.YtoffhlbdfhhhjaaDoorW.PrintWords Go.Proofs.YtoffhlbdfhhhjaaDoorW.PrintLast Go.Proofs.YtoffhlbdfhhhjaaDoorW.PrintMore Go.Proofs.YtoffhlbdfhhhjaaDoor.QL
set_option linter.unusedSimpArgs false
set_option linter.unusedVariables false
set_option maxHeartbeats 40000000
set_option maxRecDepth 100000
theorem read_rest (b : ByteArray) (most : Int) (w : World) (hG : GL w) (h63 : b.size ≤ 9223372036854775807) (hs : 9 ≤ b.size) (hl : ¬ min (max most 16384) 65536 < rdN b) (hp : ¬ (b.size : Int) - 9 < rdN b) : Calls Tryd.prog 20 #[.string b, .int .i64 most] w fun e w' => RdPost w (rdRest (rd0 b) (rdN b) (b.extract 9 (9 + (rdN b).toNat))) e w' := by
  obtain ⟨R, hR⟩ : ∃ R, rdRest (rd0 b) (rdN b) (b.extract 9 (9 + (rdN b).toNat)) = R := ⟨_, rfl⟩
  rw [hR]
  have hs1 : decide ((b.size : Int) < 9) = false := decide_eq_false (by omega)
  have HS := Aside0.mk hs
  have HB := Aside0.mk (Below.refl w.heap.size w)
  have HSZ : Aside0 ((b.extract 0 3).size ≤ 4) := ⟨by simp; omega⟩
  have b3 : (3 : Int) ≤ (b.size : Int) := by omega
  obtain ⟨n, hn⟩ : ∃ n, rdN b = n := ⟨_, rfl⟩
  rw [hn] at hl hp hR
  have HN : Aside0 (num (b.extract 0 3) = n) := ⟨hn⟩
  clear hs hn
  have hl1 : decide (min (max most 16384) 65536 < n) = false := decide_eq_false hl
  have hp1 : decide ((b.size : Int) - 9 < n) = false := decide_eq_false hp
  have hn0 : 0 ≤ n := by rw [← HN.out]; exact (num4 _ HSZ.out).1
  have hn1 : n ≤ 65536 := by omega
  have hn2 : 9 + n ≤ b.size := by omega
  obtain ⟨m, hm⟩ : ∃ m : Nat, n = m := ⟨n.toNat, by omega⟩
  subst hm
  have HM : Aside0 (m ≤ 65536 ∧ 9 + m ≤ b.size) := ⟨by omega, by omega⟩
  obtain ⟨q, hq⟩ : ∃ q : Nat, 9 + m = q := ⟨_, rfl⟩
  have HQ := Aside0.mk hq
  have hw9 : wrap64 (9 + (m : Int)) = (q : Int) := by unfold wrap64; omega
  have i9 : (q : Int) ≤ (b.size : Int) := by omega
  have j9 : (9 : Int) ≤ (q : Int) := by omega
  have b5 : (9 : Int) ≤ (b.size : Int) := by have := HS.out; omega
  have n3 : 3 < b.size := by have := HS.out; omega
  have n4 : 4 < b.size := by have := HS.out; omega
  have HS59 : Aside0 ((b.extract 5 9).size ≤ 4) := ⟨ext4 b 5⟩
  have HG := Aside0.mk hG
  have i3 : (3 : Int) < (b.size : Int) := by have := HS.out; omega
  have i4 : (4 : Int) < (b.size : Int) := by have := HS.out; omega
  obtain ⟨t, ht⟩ : ∃ t, bt b 3 = t := ⟨_, rfl⟩
  have ht3 : ((b[3]'n3).toNat : Int) = t := (bt_at b 3 n3).trans ht
  obtain ⟨u, hu⟩ : ∃ u, bt b 4 = u := ⟨_, rfl⟩
  have hu4 : ((b[4]'n4).toNat : Int) = u := (bt_at b 4 n4).trans hu
  have hwt : wrap64 t = t := by have h := bt_range b 3; rw [ht] at h; unfold wrap64; omega
  have hwu : wrap64 u = u := by have h := bt_range b 4; rw [hu] at h; unfold wrap64; omega
  obtain ⟨x, hx⟩ : ∃ x, num (b.extract 5 9) % 2147483648 = x := ⟨_, rfl⟩
  obtain ⟨k, hk⟩ : ∃ k, kFl t = k := ⟨_, rfl⟩
  obtain ⟨fl, hfl⟩ : ∃ fl, Go.bits .and .i64 u k = fl := ⟨_, rfl⟩
  have HX := Aside0.mk hx
  have HK := Aside0.mk hk
  have H0 : Aside0 (0 ≤ t) := ⟨by rw [← ht]; exact (bt_range b 3).1⟩
  have HF : Aside0 (rd0 b = (⟨t, fl, x, ByteArray.empty, 0, 0, false, 0, 0, 0, []⟩ : Fr)) := ⟨by unfold rd0; rw [ht, hu, hk, hfl, hx]; rfl⟩
  have HR : Aside0 (rdRest (⟨t, fl, x, ByteArray.empty, 0, 0, false, 0, 0, 0, []⟩ : Fr) (m : Int) (b.extract 9 q) = R) := ⟨by rw [← HF.out, ← hR, ← hq]; rfl⟩
  have HU : Aside0 (0 ≤ u ∧ u ≤ 255) := ⟨by have h := bt_range b 4; rw [hu] at h; exact h⟩
  have HFL := Aside0.mk hfl
  clear hR hl hp hG hn0 hn1 hn2 hq hx hk ht hu
  go_enter Tryd.func20, Tryd.ntmps20
  go_upto_region 3 with fail
  obtain ⟨W1, hW1⟩ : ∃ W, (w.alloc (.cells #[.int .i64 0, .int .i64 0, .int .i64 0, .string ⟨#[]⟩, .int .i64 0, .int .i64 0, .bool false, .int .i64 0, .int .i64 0, .int .i64 0, .slice none 0 0] 24)).alloc (.cells #[.int .i64 0, .int .i64 0] 35) = W := ⟨_, rfl⟩
  have Z4 : Aside0 (At W1 w.heap.size Fr.zero none 0) := ⟨by rw [← hW1]; exact (zero_new w).low (below_alloc (Below.refl _ _) _)⟩
  have Z6 : Aside0 (W1.heap[w.heap.size + 1]? = some (.cells #[.int .i64 0, .int .i64 0] 35 (0, 0))) := ⟨by rw [← hW1]; exact heap_alloc2_new _ _ _⟩
  have L1 : Aside0 (Below w.heap.size w W1) := ⟨by rw [← hW1]; exact below_alloc (below_alloc HB.out _) _⟩
  obtain ⟨g4, hg4⟩ : ∃ g, w.heap.size = g := ⟨_, rfl⟩
  obtain ⟨g6, hg6⟩ : ∃ g, g4 + 1 = g := ⟨_, rfl⟩
  rw [hW1, hg4, hg6]
  rw [hg4] at Z4 Z6
  rw [hg6] at Z6
  have HG4 := Aside0.mk hg4
  have HG6 := Aside0.mk hg6
  clear hW1 hg4 hg6 HB
  go_upto_region 8 with (go_at_call 56; refine (got_below (b.extract 0 3) (m : Int) _ HSZ.out HN.out).mono ?_; rintro e w3 ⟨rfl, hb⟩; have LL3 := Aside0.mk (below_then (Below.refl W1.heap.size W1) (Nat.le_refl _) hb); clear hb)
  refine start_ (n := 9) (S := fun w' => Below W1.heap.size W1 w') (ds := [8]) #[false, false, false, false, false, false, false, false, false] (by kernel_rfl) rfl rfl (below_then LL3.out LL3.out.size (below_drew (Below.refl _ _))) (fun hHeld => ?_)
  refine pure_ (i := 0) (N := some 32) (v := ?_) (a' := ?_) #[true, false, false, false, false, false, false, false, false] rfl rfl (by kernel_rfl) (fun _ _ _ h => h) (Or.inl ⟨by rfl, ?_⟩) ?_ ?_
  rotate_left
  · intro w'
    go_simp
    with_reducible rfl
  rotate_left
  · simp only [Act.put, List.setIfInBounds_toArray, List.set_cons_zero, List.set_cons_succ, i64_w, i32_w]
    rfl
  refine pure_ (i := 3) (N := some 35) (v := ?_) (a' := ?_) #[true, false, false, true, false, false, false, false, false] rfl rfl (by kernel_rfl) (fun _ _ _ h => h) (Or.inl ⟨by rfl, ?_⟩) ?_ ?_
  rotate_left
  · intro w'
    go_simp
    with_reducible rfl
  rotate_left
  · simp only [Act.put, List.setIfInBounds_toArray, List.set_cons_zero, List.set_cons_succ, i64_w, i32_w]
    rfl
  refine pure_ (i := 4) (N := some 36) (v := ?_) (a' := ?_) #[true, false, false, true, true, false, false, false, false] rfl rfl (by kernel_rfl) (fun _ _ _ h => h) (Or.inl ⟨by rfl, ?_⟩) ?_ ?_
  rotate_left
  · intro w'
    go_simp
    with_reducible rfl
  rotate_left
  · simp only [Act.put, List.setIfInBounds_toArray, List.set_cons_zero, List.set_cons_succ, i64_w, i32_w]
    rfl
  refine take_ (i := 1) (N := some 33) (v := ?_) (a' := ?_) #[true, true, false, true, true, false, false, false, false] rfl rfl (by kernel_rfl) (fun _ _ _ h => h) (Or.inl ⟨by rfl, ?_⟩) hHeld ?_ ?_
  rotate_left
  · intro w' s0
    go_simp
    with_reducible rfl
  rotate_left
  · simp only [Act.put, List.setIfInBounds_toArray, List.set_cons_zero, List.set_cons_succ, i64_w, i32_w]
    rfl
  refine pure_ (i := 2) (N := some 34) (v := ?_) (a' := ?_) #[true, true, true, true, true, false, false, false, false] rfl rfl (by kernel_rfl) (fun _ _ _ h => h) (Or.inl ⟨by rfl, ?_⟩) ?_ ?_
  rotate_left
  · intro w'
    go_simp
    with_reducible rfl
  rotate_left
  · simp only [Act.put, List.setIfInBounds_toArray, List.set_cons_zero, List.set_cons_succ, i64_w, i32_w]
    rfl
  refine join_ (σ := Nat) 1 #[true, true, true, true, true, true, true, true, false] (fun s => [(37, .int .i64 x), (38, .agg #[.int .i64 t, .int .i64 0, .int .i64 x, .string ⟨#[]⟩, .int .i64 0, .int .i64 0, .bool false, .int .i64 0, .int .i64 0, .int .i64 0, .slice none 0 0]), (8, .pointer (some ⟨s, 0, none⟩))]) (fun s w' => At w' s Fr.zero none 0 ∧ W1.heap.size ≤ s ∧ Below W1.heap.size W1 w') ?_ ?_
  rotate_left
  · intro hCont
    refine two_ (i := 5) (j := 7) (Ni := some 37) (Nj := some 8) #[true, true, true, true, true, true, false, false, false] #[true, true, true, true, true, false, false, true, false] rfl rfl rfl rfl (by kernel_rfl) (by decide) (by decide) (fun K hK => ?_) (fun K hK => ?_)
    · skip
      refine goes_ Tryd.func57 (by kernel_rfl) rfl #[.string (b.extract 5 9)] (by rfl) rfl rfl (by simp only [List.map_toArray, List.map_cons, List.map_nil]; rfl) ?_
      with_reducible refine (id_below (b.extract 5 9) x _ HS59.out HX.out).mono ?_
      rintro e w5 ⟨rfl, hb⟩
      refine ⟨_, rfl, ?_⟩
      refine hK.out _ _ (below_then hHeld hHeld.size hb) (fun hHeld => ?_)
      clear hK K
      refine norm_ (a' := ?_) ?_ ?_
      rotate_left
      · show Act.put _ (some 37) _ = _
        simp only [Act.put, List.setIfInBounds_toArray, List.set_cons_zero, List.set_cons_succ, i64_w, i32_w]
        rfl
      refine pure_ (i := 6) (N := some 38) (v := ?_) (a' := ?_) #[true, true, true, true, true, true, true, false, false] rfl rfl (by kernel_rfl) (fun _ _ _ h => h) (Or.inl ⟨by rfl, ?_⟩) ?_ ?_
      rotate_left
      · intro w'
        go_simp
        with_reducible rfl
      rotate_left
      · simp only [Act.put, List.setIfInBounds_toArray, List.set_cons_zero, List.set_cons_succ, i64_w, i32_w]
        rfl
      refine one_ (i := 7) (N := some 8) #[true, true, true, true, true, true, true, true, false] rfl rfl (by kernel_rfl) (by decide) (fun K hK => ?_)
      refine value_ (w1 := ?_) (v := ?_) (by rfl) rfl ?_ ?_
      rotate_left 2
      · go_simp
        constructor
        · rfl
        · rfl
      refine hK.out _ _ (below_then hHeld hHeld.size (below_alloc (Below.refl _ _) _)) (fun hHeld => ?_)
      clear hK K
      refine norm_ (a' := ?_) ?_ ?_
      rotate_left
      · show Act.put _ (some 8) _ = _
        simp only [Act.put, List.setIfInBounds_toArray, List.set_cons_zero, List.set_cons_succ, i64_w, i32_w]
        rfl
      exact norm_ (by simp only [putAll, Act.put, List.setIfInBounds_toArray, List.set_cons_zero, List.set_cons_succ]) (hCont _ _ ⟨zero_new _, Nat.le_trans LL3.out.size hb.size, hHeld⟩)
    · skip
      refine value_ (w1 := ?_) (v := ?_) (by rfl) rfl ?_ ?_
      rotate_left 2
      · go_simp
        constructor
        · rfl
        · rfl
      refine hK.out _ _ (below_then hHeld hHeld.size (below_alloc (Below.refl _ _) _)) (fun hHeld => ?_)
      clear hK K
      refine norm_ (a' := ?_) ?_ ?_
      rotate_left
      · show Act.put _ (some 8) _ = _
        simp only [Act.put, List.setIfInBounds_toArray, List.set_cons_zero, List.set_cons_succ, i64_w, i32_w]
        rfl
      refine one_ (i := 5) (N := some 37) #[true, true, true, true, true, true, false, true, false] rfl rfl (by kernel_rfl) (by decide) (fun K hK => ?_)
      refine goes_ Tryd.func57 (by kernel_rfl) rfl #[.string (b.extract 5 9)] (by rfl) rfl rfl (by simp only [List.map_toArray, List.map_cons, List.map_nil]; rfl) ?_
      with_reducible refine (id_below (b.extract 5 9) x _ HS59.out HX.out).mono ?_
      rintro e w5 ⟨rfl, hb⟩
      refine ⟨_, rfl, ?_⟩
      refine hK.out _ _ (below_then hHeld hHeld.size hb) (fun hHeld => ?_)
      clear hK K
      refine norm_ (a' := ?_) ?_ ?_
      rotate_left
      · show Act.put _ (some 37) _ = _
        simp only [Act.put, List.setIfInBounds_toArray, List.set_cons_zero, List.set_cons_succ, i64_w, i32_w]
        rfl
      refine pure_ (i := 6) (N := some 38) (v := ?_) (a' := ?_) #[true, true, true, true, true, true, true, true, false] rfl rfl (by kernel_rfl) (fun _ _ _ h => h) (Or.inl ⟨by rfl, ?_⟩) ?_ ?_
      rotate_left
      · intro w'
        go_simp
        with_reducible rfl
      rotate_left
      · simp only [Act.put, List.setIfInBounds_toArray, List.set_cons_zero, List.set_cons_succ, i64_w, i32_w]
        rfl
      exact norm_ (by simp only [putAll, Act.put, List.setIfInBounds_toArray, List.set_cons_zero, List.set_cons_succ]) (hCont _ _ ⟨((zero_new w3).low (below_drew (Below.refl _ _))).low hb, LL3.out.size, hHeld⟩)
  rintro g8 w8 ⟨hZ, hge, hHeld⟩
  refine norm_ (a' := ?_) ?_ ?_
  rotate_left
  · simp only [putAll, Act.put, List.setIfInBounds_toArray, List.set_cons_zero, List.set_cons_succ]
    rfl
  refine last_ (i := 8) (N := none) #[true, true, true, true, true, true, true, true, true] rfl rfl (by kernel_rfl) (by decide) (fun K hK => ?_)
  refine skip_row 24 _ _ rfl (by rfl) rfl g8 #[.int .i64 t, .int .i64 0, .int .i64 x, .string ⟨#[]⟩, .int .i64 0, .int .i64 0, .bool false, .int .i64 0, .int .i64 0, .int .i64 0, .slice none 0 0] rfl rfl 24 _ hZ (by kernel_rfl) (by kernel_rfl) (by kernel_rfl) ?_
  obtain ⟨W8, e8, q4, qo, qb⟩ := row_store _ g8 #[.int .i64 t, .int .i64 0, .int .i64 x, .string ⟨#[]⟩, .int .i64 0, .int .i64 0, .bool false, .int .i64 0, .int .i64 0, .int .i64 0, .slice none 0 0] 24 _ hZ
  rw [e8]
  have T8 : Aside0 (TInv W1 W8 g8 (⟨t, 0, x, ByteArray.empty, 0, 0, false, 0, 0, 0, []⟩ : Fr) none 0) := ⟨⟨q4, qb _ _ hHeld hge, hge⟩⟩
  clear q4 qo qb e8 hZ hge
  refine hK.out _ _ ?_
  clear hK K
  refine done_ (by kernel_rfl) ?_
  have hfd := fld0
  go_upto_region 9 with fail
  refine start_ (n := 10) (S := fun w' => w'.cell? ⟨g8, 0, none⟩ = some (.int .i64 t) ∧ TInv W1 w' g8 (⟨t, 0, x, ByteArray.empty, 0, 0, false, 0, 0, 0, []⟩ : Fr) none 0) (ds := [9]) #[false, false, false, false, false, false, false, false, false, false] (by kernel_rfl) rfl rfl ⟨(T8.out.below (below_drew (Below.refl _ _))).own.c0, T8.out.below (below_drew (Below.refl _ _))⟩ (fun hHeld => ?_)
  refine pure_ (i := 0) (N := some 39) (v := ?_) (a' := ?_) #[true, false, false, false, false, false, false, false, false, false] rfl rfl (by kernel_rfl) (fun _ _ _ h => h) (Or.inl ⟨by rfl, ?_⟩) ?_ ?_
  rotate_left
  · intro w'
    go_simp
    with_reducible rfl
  rotate_left
  · simp only [Act.put, List.setIfInBounds_toArray, List.set_cons_zero, List.set_cons_succ, i64_w, i32_w]
    rfl
  refine pure_ (i := 3) (N := some 42) (v := ?_) (a' := ?_) #[true, false, false, true, false, false, false, false, false, false] rfl rfl (by kernel_rfl) (fun _ _ _ h => h) (Or.inl ⟨by rfl, ?_⟩) ?_ ?_
  rotate_left
  · intro w'
    go_simp
    with_reducible rfl
  rotate_left
  · simp only [Act.put, List.setIfInBounds_toArray, List.set_cons_zero, List.set_cons_succ, i64_w, i32_w]
    rfl
  refine take_ (i := 1) (N := some 40) (v := ?_) (a' := ?_) #[true, true, false, true, false, false, false, false, false, false] rfl rfl (by kernel_rfl) (fun _ _ _ h => h) (Or.inl ⟨by rfl, ?_⟩) hHeld ?_ ?_
  rotate_left
  · rintro w' ⟨s0, s1⟩
    go_simp
    with_reducible rfl
  rotate_left
  · simp only [Act.put, List.setIfInBounds_toArray, List.set_cons_zero, List.set_cons_succ, i64_w, i32_w]
    rfl
  refine pure_ (i := 2) (N := some 41) (v := ?_) (a' := ?_) #[true, true, true, true, false, false, false, false, false, false] rfl rfl (by kernel_rfl) (fun _ _ _ h => h) (Or.inl ⟨by rfl, ?_⟩) ?_ ?_
  rotate_left
  · intro w'
    go_simp
    with_reducible rfl
  rotate_left
  · simp only [Act.put, List.setIfInBounds_toArray, List.set_cons_zero, List.set_cons_succ, i64_w, i32_w]
    rfl
  refine take_ (i := 4) (N := some 43) (v := ?_) (a' := ?_) #[true, true, true, true, true, false, false, false, false, false] rfl rfl (by kernel_rfl) (fun _ _ _ h => h) (Or.inl ⟨by rfl, ?_⟩) hHeld ?_ ?_
  rotate_left
  · rintro w' ⟨s0, s1⟩
    go_simp
    with_reducible rfl
  rotate_left
  · simp only [Act.put, List.setIfInBounds_toArray, List.set_cons_zero, List.set_cons_succ, i64_w, i32_w]
    rfl
  refine one_ (i := 5) (N := some 44) #[true, true, true, true, true, true, false, false, false, false] rfl rfl (by kernel_rfl) (by decide) (fun K hK => ?_)
  refine goes_ Tryd.func58 (by kernel_rfl) rfl #[.int .i64 t] (by rfl) rfl rfl (by simp only [List.map_toArray, List.map_cons, List.map_nil]; rfl) ?_
  with_reducible refine (kindOf_calls t k _ _ (HG.out.below (below_then L1.out L1.out.size hHeld.2.low)) H0.out HK.out rfl).mono ?_
  rintro e w9 ⟨rfl, hb⟩
  refine ⟨_, rfl, ?_⟩
  refine hK.out _ _ ⟨(hHeld.2.below hb).own.c0, hHeld.2.below hb⟩ (fun hHeld => ?_)
  clear hK K
  refine norm_ (a' := ?_) ?_ ?_
  rotate_left
  · show Act.put _ (some 44) _ = _
    simp only [Act.put, List.setIfInBounds_toArray, List.set_cons_zero, List.set_cons_succ, i64_w, i32_w]
    rfl
  refine pure_ (i := 6) (N := some 45) (v := ?_) (a' := ?_) #[true, true, true, true, true, true, true, false, false, false] rfl rfl (by kernel_rfl) (fun _ _ _ h => h) (Or.inl ⟨by rfl, ?_⟩) ?_ ?_
  rotate_left
  · intro w'
    go_simp
    with_reducible rfl
  rotate_left
  · simp only [Act.put, List.setIfInBounds_toArray, List.set_cons_zero, List.set_cons_succ, i64_w, i32_w]
    rfl
  refine pure_ (i := 7) (N := some 46) (v := ?_) (a' := ?_) #[true, true, true, true, true, true, true, true, false, false] rfl rfl (by kernel_rfl) (fun _ _ _ h => h) (Or.inl ⟨by rfl, ?_⟩) ?_ ?_
  rotate_left
  · intro w'
    go_simp
    with_reducible rfl
  rotate_left
  · simp only [Act.put, List.setIfInBounds_toArray, List.set_cons_zero, List.set_cons_succ, i64_w, i32_w]
    rfl
  refine pure_ (i := 8) (N := some 47) (v := ?_) (a' := ?_) #[true, true, true, true, true, true, true, true, true, false] rfl rfl (by kernel_rfl) (fun _ _ _ h => h) (Or.inl ⟨by rfl, ?_⟩) ?_ ?_
  rotate_left
  · intro w'
    go_simp
    with_reducible rfl
  rotate_left
  · simp only [Act.put, List.setIfInBounds_toArray, List.set_cons_zero, List.set_cons_succ, i64_w, i32_w]
    rfl
  refine last_ (i := 9) (N := none) #[true, true, true, true, true, true, true, true, true, true] rfl rfl (by kernel_rfl) (by decide) (fun K hK => ?_)
  have y1 := hHeld.2.own.c1
  have yf1 := blk_frozen hHeld.2.own 1
  have T9 := Aside0.mk hHeld.2
  refine skip_ (w1 := ?_) (by rfl) rfl ?_ ?_
  rotate_left
  · go_simp
    rfl
  clear y1 yf1
  refine hK.out _ _ ?_
  clear hK K
  refine done_ (by kernel_rfl) ?_
  repeat (rename World.cell? _ _ = _ ∧ _ => hh; clear hh)
  repeat (rename Below W1.heap.size W1 _ => hh; clear hh)
  have HG8 : Aside0 (g6 < g8) := ⟨by have h1 := T9.out.ge; have h2 := blk_lt Z6.out; omega⟩
  go_upto_region 11 with fail
  obtain ⟨W2, hW2⟩ : ∃ W, w9.setCell ⟨g8, 1, none⟩ (.int .i64 fl) = W := ⟨_, rfl⟩
  obtain ⟨f1, hf1⟩ : ∃ f, (⟨t, fl, x, ByteArray.empty, 0, 0, false, 0, 0, 0, []⟩ : Fr) = f := ⟨_, rfl⟩
  have hT2 := T9.out.put1 fl
  rw [hW2] at hT2
  have T2 : Aside0 (TInv W1 W2 g8 f1 none 0) := ⟨by rw [← hf1]; exact hT2⟩
  obtain ⟨p, hpp⟩ : ∃ p, b.extract 9 q = p := ⟨_, rfl⟩
  have HPS : Aside0 (p.size = m) := ⟨by rw [← hpp]; have h1 := HQ.out; have h2 := HM.out; simp; omega⟩
  rw [hW2, hpp]
  rw [hf1, hpp] at HR
  have HF1 := Aside0.mk hf1
  have E0 : Aside0 (f1.ty = t ∧ f1.fl = fl ∧ f1.st = x ∧ f1.ps = []) := ⟨by rw [← hf1]; exact ⟨rfl, rfl, rfl, rfl⟩⟩
  clear hW2 hT2 hpp hf1 T8 T9 hfd LL3
  have H01 : Aside0 (0 ≤ f1.ty) := ⟨by rw [E0.out.1]; exact H0.out⟩
  obtain ⟨sb, hsb⟩ : ∃ s, stB f1.ty f1.st = s := ⟨_, rfl⟩
  have HSB := Aside0.mk hsb
  obtain ⟨a, ha⟩ : ∃ a, aheadI f1 = a := ⟨_, rfl⟩
  have HA := Aside0.mk ha
  obtain ⟨pb, hpb⟩ : ∃ s, padB f1 = s := ⟨_, rfl⟩
  have HPB := Aside0.mk hpb
  clear hsb ha hpb
  go_upto_if 53 with (go_at_call 59; refine (stands_calls g8 f1 none 0 sb _ T2.out.own (HG.out.below (below_then L1.out L1.out.size T2.out.low)) H01.out HSB.out).mono ?_; rintro e w10 ⟨rfl, hb⟩; have T3 := Aside0.mk (T2.out.below hb); clear hb)
  cases sb
  · have HV : Aside0 (R = .bad 1) := ⟨by rw [← HR.out]; exact if_pos HSB.out⟩
    have Y4 := Aside0.mk (Z4.out.low T3.out.low)
    have Y6 := Aside0.mk (blk_below Z6.out T3.out.low)
    have L3 := Aside0.mk (below_then L1.out L1.out.size T3.out.low)
    go_wp2_with (first | (refine wpList_store_row rfl 24 _ _ rfl g4 #[.int .i64 0, .int .i64 0, .int .i64 0, .string ⟨#[]⟩, .int .i64 0, .int .i64 0, .bool false, .int .i64 0, .int .i64 0, .int .i64 0, .slice none 0 0] rfl rfl 24 _ Y4.out (by kernel_rfl) (by kernel_rfl) (by kernel_rfl) ?_; obtain ⟨W8, e8, q4, qo, qb⟩ := row_store _ g4 _ 24 _ Y4.out; rw [e8]; have Q4 := Aside0.mk q4; have Q6 := Aside0.mk ((qo _ (by have := HG6.out; omega)).trans Y6.out); have QO := Aside0.mk qo; have QL := Aside0.mk (qb _ _ L3.out (by have := HG4.out; omega)); clear q4 qo qb e8) | (refine wpList_store_row rfl 35 _ _ rfl g6 #[.int .i64 1, .int .i64 0] rfl rfl 35 _ Q6.out (by kernel_rfl) (by kernel_rfl) (by kernel_rfl) ?_; obtain ⟨W9, e9, p6, po, pb⟩ := row_store _ g6 _ 35 _ Q6.out; rw [e9]; have R6 := Aside0.mk p6; have R4 := Aside0.mk ((po _ (by have := HG6.out; omega)).trans Q4.out); have PO := Aside0.mk po; have RL := Aside0.mk (pb _ _ QL.out (by have := HG4.out; have := HG6.out; omega)); clear p6 po pb e9))
    rw [HV.out]
    exact bodyPost_ret (res20 _ _ g4 g6 Fr.zero none 0 0 1 0 rfl rfl rfl R4.out R6.out) rfl (RdPost.zero 0 1 0 rfl RL.out)
  · go_upto_if 58 with (go_at_call 60; refine (ahead_calls g8 f1 none 0 a _ T3.out.own (HG.out.below (below_then L1.out L1.out.size T3.out.low)) H01.out HA.out).mono ?_; rintro e w11 ⟨rfl, hb⟩; have T4 := Aside0.mk (T3.out.below hb); clear hb)
    by_cases hma : (m : Int) < a
    · have HV : Aside0 (R = .bad 6) := ⟨by rw [← HR.out]; unfold rdRest; rw [if_neg (by rw [HSB.out]; decide), if_pos (by rw [HA.out]; exact hma)]⟩
      have hma1 : decide ((m : Int) < a) = true := decide_eq_true hma
      rw [hma1]
      clear hma
      have Y4 := Aside0.mk (Z4.out.low T4.out.low)
      have Y6 := Aside0.mk (blk_below Z6.out T4.out.low)
      have L3 := Aside0.mk (below_then L1.out L1.out.size T4.out.low)
      go_wp2_with (first | (refine wpList_store_row rfl 24 _ _ rfl g4 #[.int .i64 0, .int .i64 0, .int .i64 0, .string ⟨#[]⟩, .int .i64 0, .int .i64 0, .bool false, .int .i64 0, .int .i64 0, .int .i64 0, .slice none 0 0] rfl rfl 24 _ Y4.out (by kernel_rfl) (by kernel_rfl) (by kernel_rfl) ?_; obtain ⟨W8, e8, q4, qo, qb⟩ := row_store _ g4 _ 24 _ Y4.out; rw [e8]; have Q4 := Aside0.mk q4; have Q6 := Aside0.mk ((qo _ (by have := HG6.out; omega)).trans Y6.out); have QO := Aside0.mk qo; have QL := Aside0.mk (qb _ _ L3.out (by have := HG4.out; omega)); clear q4 qo qb e8) | (refine wpList_store_row rfl 35 _ _ rfl g6 #[.int .i64 6, .int .i64 0] rfl rfl 35 _ Q6.out (by kernel_rfl) (by kernel_rfl) (by kernel_rfl) ?_; obtain ⟨W9, e9, p6, po, pb⟩ := row_store _ g6 _ 35 _ Q6.out; rw [e9]; have R6 := Aside0.mk p6; have R4 := Aside0.mk ((po _ (by have := HG6.out; omega)).trans Q4.out); have PO := Aside0.mk po; have RL := Aside0.mk (pb _ _ QL.out (by have := HG4.out; have := HG6.out; omega)); clear p6 po pb e9))
      rw [HV.out]
      exact bodyPost_ret (res20 _ _ g4 g6 Fr.zero none 0 0 6 0 rfl rfl rfl R4.out R6.out) rfl (RdPost.zero 0 6 0 rfl RL.out)
    · have hma1 : decide ((m : Int) < a) = false := decide_eq_false hma
      have HMA := Aside0.mk hma
      rw [hma1]
      clear hma
      go_upto_if 61 with (go_at_call 46; refine (padded_calls g8 f1 none 0 pb _ T4.out.own HPB.out).mono ?_; rintro e w12 ⟨rfl, rfl⟩)
      cases pb
      · skip
        have HH1 : Aside0 (f1.ty = 1 → has f1.fl 32 = true → 5 ≤ p.size) := ⟨fun h1 h2 => by have e1 := aheadR_1 f1 h1 h2; have e2 := (aheadI_ge f1).1; have e3 := HA.out; have e4 := HMA.out; have e5 := HPS.out; omega⟩
        have HH5 : Aside0 (f1.ty = 5 → 4 ≤ p.size) := ⟨fun h1 => by have e1 := aheadR_5 f1 h1; have e2 := (aheadI_ge f1).1; have e3 := HA.out; have e4 := HMA.out; have e5 := HPS.out; omega⟩
        have HSZP : Aside0 (p.size ≤ 65536) := ⟨by have h1 := HPS.out; have h2 := HM.out; omega⟩
        obtain ⟨xb, hxb⟩ : ∃ z, (takes f1 p).isSome = z := ⟨_, rfl⟩
        obtain ⟨N, M, hTK⟩ := take_any g8 f1 p xb W1 _ T4.out E0.out.2.2.2 HSZP.out HH1.out HH5.out hxb
        have TK := Aside0.mk hTK
        have hcf := hTK.2.2
        have HXB := Aside0.mk hxb
        clear hTK hxb
        have z0 := T4.out.own.c0
        have hfd := fldF1
        go_upto_if 86 with (first | (go_at_call 48; refine (TK.out.1 _).mono ?_; rintro e w20 ⟨rfl, hb⟩; have B20 := Aside0.mk hb; clear hb) | (refine (TK.out.2.1 _ B20.out).mono ?_; rintro e w21 ⟨rfl, f3, A3, c3, ht3, hy3, hs3, hr3⟩; have T21 := Aside0.mk ht3; have Y3 := Aside0.mk hy3; have S3 := Aside0.mk hs3; have R3 := Aside0.mk hr3; clear ht3 hy3 hs3 hr3))
        clear z0 hfd hcf
        have HQI : Aside0 ((9 : Int) + m = q) := ⟨by have := HQ.out; omega⟩
        cases xb
        · have hnone : takes f1 p = none := by
            have h := HXB.out
            cases hh : takes f1 p with
            | none => rfl
            | some y => rw [hh] at h; cases h
          have HVN := Aside0.mk (rdRest_none f1 m p f1 p HSB.out (by rw [HA.out]; exact Int.not_lt.mpr HMA.out) (by rw [HPB.out]; rintro ⟨h, _⟩; cases h) (by rw [HPB.out]; rfl) (by rw [HPB.out]; rfl) hnone)
          clear hnone
          have z3 := T21.out.own.c0
          rw [Y3.out] at z3
          by_cases t2 : f1.ty = 2
          · have t2b : (f1.ty == 2) = true := by rw [t2]; rfl
            have HV : Aside0 (R = ⟨Fr.zero, q, 6, f1.st⟩) := ⟨by rw [← HR.out, HVN.out, if_pos t2, HQI.out]⟩
            clear t2
            go_upto_region 22 with fail
            clear z3
            have hD := T21.out.below (below_drew (Below.refl _ _))
            have d0 := hD.own.c2
            rw [S3.out] at d0
            have d1 := Z4.out.low hD.low
            have d2 := blk_below Z6.out hD.low
            have d3 := below_then L1.out L1.out.size hD.low
            clear hD
            refine start_ (n := 9) (S := fun w' => w'.cell? ⟨g8, 2, none⟩ = some (.int .i64 f1.st) ∧ At w' g4 Fr.zero none 0 ∧ w'.heap[g6]? = some (.cells #[.int .i64 0, .int .i64 0] 35 (0, 0)) ∧ Below w.heap.size w w') (ds := [8]) #[false, false, false, false, false, false, false, false, false] (by kernel_rfl) rfl rfl ⟨d0, d1, d2, d3⟩ (fun hHeld => ?_)
            refine pure_ (i := 0) (N := some 90) (v := ?_) (a' := ?_) #[true, false, false, false, false, false, false, false, false] rfl rfl (by kernel_rfl) (fun _ _ _ h => h) (Or.inl ⟨by rfl, ?_⟩) ?_ ?_
            rotate_left
            · intro w'
              go_simp
              with_reducible rfl
            rotate_left
            · simp only [Act.put, List.setIfInBounds_toArray, List.set_cons_zero, List.set_cons_succ, i64_w, i32_w]
              rfl
            refine pure_ (i := 1) (N := some 91) (v := ?_) (a' := ?_) #[true, true, false, false, false, false, false, false, false] rfl rfl (by kernel_rfl) (fun _ _ _ h => h) (Or.inl ⟨by rfl, ?_⟩) ?_ ?_
            rotate_left
            · intro w'
              go_simp
              with_reducible rfl
            rotate_left
            · simp only [Act.put, List.setIfInBounds_toArray, List.set_cons_zero, List.set_cons_succ, i64_w, i32_w]
              rfl
            refine pure_ (i := 2) (N := some 92) (v := ?_) (a' := ?_) #[true, true, true, false, false, false, false, false, false] rfl rfl (by kernel_rfl) (fun _ _ _ h => h) (Or.inl ⟨by rfl, ?_⟩) ?_ ?_
            rotate_left
            · intro w'
              go_simp
              with_reducible rfl
            rotate_left
            · simp only [Act.put, List.setIfInBounds_toArray, List.set_cons_zero, List.set_cons_succ, i64_w, i32_w]
              rfl
            refine pure_ (i := 3) (N := some 93) (v := ?_) (a' := ?_) #[true, true, true, true, false, false, false, false, false] rfl rfl (by kernel_rfl) (fun _ _ _ h => h) (Or.inl ⟨by rfl, ?_⟩) ?_ ?_
            rotate_left
            · intro w'
              go_simp
              with_reducible rfl
            rotate_left
            · simp only [Act.put, List.setIfInBounds_toArray, List.set_cons_zero, List.set_cons_succ, i64_w, i32_w]
              rfl
            refine take_ (i := 4) (N := some 94) (v := ?_) (a' := ?_) #[true, true, true, true, true, false, false, false, false] rfl rfl (by kernel_rfl) (fun _ _ _ h => h) (Or.inl ⟨by rfl, ?_⟩) hHeld ?_ ?_
            rotate_left
            · rintro w' ⟨s0, s1, s2, s3⟩
              go_simp
              with_reducible rfl
            rotate_left
            · simp only [Act.put, List.setIfInBounds_toArray, List.set_cons_zero, List.set_cons_succ, i64_w, i32_w]
              rfl
            refine pure_ (i := 5) (N := some 95) (v := ?_) (a' := ?_) #[true, true, true, true, true, true, false, false, false] rfl rfl (by kernel_rfl) (fun _ _ _ h => h) (Or.inl ⟨by rfl, ?_⟩) ?_ ?_
            rotate_left
            · intro w'
              go_simp
              with_reducible rfl
            rotate_left
            · simp only [Act.put, List.setIfInBounds_toArray, List.set_cons_zero, List.set_cons_succ, i64_w, i32_w]
              rfl
            refine one_ (i := 6) (N := none) #[true, true, true, true, true, true, true, false, false] rfl rfl (by kernel_rfl) (by decide) (fun K hK => ?_)
            refine skip_row 24 _ _ rfl (by rfl) rfl g4 #[.int .i64 0, .int .i64 0, .int .i64 0, .string ⟨#[]⟩, .int .i64 0, .int .i64 0, .bool false, .int .i64 0, .int .i64 0, .int .i64 0, .slice none 0 0] rfl rfl 24 _ hHeld.2.1 (by kernel_rfl) (by kernel_rfl) (by kernel_rfl) ?_
            obtain ⟨W8, e8, q4, qo, qb⟩ := row_store _ g4 #[.int .i64 0, .int .i64 0, .int .i64 0, .string ⟨#[]⟩, .int .i64 0, .int .i64 0, .bool false, .int .i64 0, .int .i64 0, .int .i64 0, .slice none 0 0] 24 _ hHeld.2.1
            rw [e8]
            refine hK.out _ _ ⟨(cell_same (qo g8 (by have := HG8.out; have := HG6.out; omega)) 2).trans hHeld.1, q4, (qo g6 (by have := HG6.out; omega)).trans hHeld.2.2.1, qb _ _ hHeld.2.2.2 (by have := HG4.out; omega)⟩ (fun hHeld => ?_)
            clear hK K
            refine pure_ (i := 7) (N := some 5) (v := ?_) (a' := ?_) #[true, true, true, true, true, true, true, true, false] rfl rfl (by kernel_rfl) (fun _ _ _ h => h) (Or.inl ⟨by rfl, ?_⟩) ?_ ?_
            rotate_left
            · intro w'
              go_simp
              with_reducible rfl
            rotate_left
            · simp only [Act.put, List.setIfInBounds_toArray, List.set_cons_zero, List.set_cons_succ, i64_w, i32_w]
              rfl
            refine last_ (i := 8) (N := none) #[true, true, true, true, true, true, true, true, true] rfl rfl (by kernel_rfl) (by decide) (fun K hK => ?_)
            refine skip_row 35 _ _ rfl (by rfl) rfl g6 #[.int .i64 6, .int .i64 f1.st] rfl rfl 35 _ hHeld.2.2.1 (by kernel_rfl) (by kernel_rfl) (by kernel_rfl) ?_
            obtain ⟨W9, e9, p6, po, pb⟩ := row_store _ g6 #[.int .i64 6, .int .i64 f1.st] 35 _ hHeld.2.2.1
            rw [e9]
            have R6 := Aside0.mk p6
            have R4 := Aside0.mk ((po _ (by have := HG6.out; omega)).trans hHeld.2.1)
            have RL := Aside0.mk (pb _ _ hHeld.2.2.2 (by have := HG4.out; have := HG6.out; omega))
            refine hK.out _ _ ?_
            clear hK K
            refine done_ (by kernel_rfl) ?_
            go_wp2_with fail
            rw [HV.out]
            exact bodyPost_ret (res20 _ _ g4 g6 Fr.zero none 0 q 6 f1.st rfl rfl rfl R4.out R6.out) rfl (RdPost.zero q 6 f1.st rfl RL.out)
          · have t2b : (f1.ty == 2) = false := beq_eq_false_iff_ne.mpr t2
            have HV : Aside0 (R = .bad 6) := ⟨by rw [← HR.out, HVN.out, if_neg t2]⟩
            clear t2
            have Y4 := Aside0.mk (Z4.out.low T21.out.low)
            have Y6 := Aside0.mk (blk_below Z6.out T21.out.low)
            have L3 := Aside0.mk (below_then L1.out L1.out.size T21.out.low)
            go_wp2_with (first | (refine wpList_store_row rfl 24 _ _ rfl g4 #[.int .i64 0, .int .i64 0, .int .i64 0, .string ⟨#[]⟩, .int .i64 0, .int .i64 0, .bool false, .int .i64 0, .int .i64 0, .int .i64 0, .slice none 0 0] rfl rfl 24 _ Y4.out (by kernel_rfl) (by kernel_rfl) (by kernel_rfl) ?_; obtain ⟨W8, e8, q4, qo, qb⟩ := row_store _ g4 _ 24 _ Y4.out; rw [e8]; have Q4 := Aside0.mk q4; have Q6 := Aside0.mk ((qo _ (by have := HG6.out; omega)).trans Y6.out); have QO := Aside0.mk qo; have QL := Aside0.mk (qb _ _ L3.out (by have := HG4.out; omega)); clear q4 qo qb e8) | (refine wpList_store_row rfl 35 _ _ rfl g6 #[.int .i64 6, .int .i64 0] rfl rfl 35 _ Q6.out (by kernel_rfl) (by kernel_rfl) (by kernel_rfl) ?_; obtain ⟨W9, e9, p6, po, pb⟩ := row_store _ g6 _ 35 _ Q6.out; rw [e9]; have R6 := Aside0.mk p6; have R4 := Aside0.mk ((po _ (by have := HG6.out; omega)).trans Q4.out); have PO := Aside0.mk po; have RL := Aside0.mk (pb _ _ QL.out (by have := HG4.out; have := HG6.out; omega)); clear p6 po pb e9))
            rw [HV.out]
            exact bodyPost_ret (res20 _ _ g4 g6 Fr.zero none 0 0 6 0 rfl rfl rfl R4.out R6.out) rfl (RdPost.zero 0 6 0 rfl RL.out)
        · have HV : Aside0 (R = ⟨f3, q, 0, 0⟩) := ⟨by rw [← HR.out, rdRest_some f1 m p f1 p f3 HSB.out (by rw [HA.out]; exact Int.not_lt.mpr HMA.out) (by rw [HPB.out]; rintro ⟨h, _⟩; cases h) (by rw [HPB.out]; rfl) (by rw [HPB.out]; rfl) (R3.out (by first | trivial | rfl)).1, HQI.out]⟩
          have Y4 := Aside0.mk (Z4.out.low T21.out.low)
          have Y6 := Aside0.mk (blk_below Z6.out T21.out.low)
          have L3 := Aside0.mk (below_then L1.out L1.out.size T21.out.low)
          go_wp2_with (first | (refine wpList_load_row rfl 24 _ rfl g8 rfl 24 (f3.cells A3 c3) (0, 0) _ T21.out.own Tryd.underlying24 (by rfl) (by kernel_rfl) ?_) | (refine wpList_store_row rfl 24 _ _ rfl g4 (f3.cells A3 c3) rfl rfl 24 _ Y4.out (by kernel_rfl) (by kernel_rfl) (by kernel_rfl) ?_; obtain ⟨W8, e8, q4, qo, qb⟩ := row_store _ g4 _ 24 _ Y4.out; rw [e8]; have Q4 := Aside0.mk q4; have Q6 := Aside0.mk ((qo _ (by have := HG6.out; omega)).trans Y6.out); have QO := Aside0.mk qo; have QL := Aside0.mk (qb _ _ L3.out (by have := HG4.out; omega)); clear q4 qo qb e8) | (refine wpList_store_row rfl 35 _ _ rfl g6 #[.int .i64 0, .int .i64 0] rfl rfl 35 _ Q6.out (by kernel_rfl) (by kernel_rfl) (by kernel_rfl) ?_; obtain ⟨W9, e9, p6, po, pb⟩ := row_store _ g6 _ 35 _ Q6.out; rw [e9]; have R6 := Aside0.mk p6; have R4 := Aside0.mk ((po _ (by have := HG6.out; omega)).trans Q4.out); have PO := Aside0.mk po; have RL := Aside0.mk (pb _ _ QL.out (by have := HG4.out; have := HG6.out; omega)); clear p6 po pb e9))
          rw [HV.out]
          exact bodyPost_ret (res20 _ _ g4 g6 f3 A3 c3 q 0 0 rfl rfl rfl R4.out R6.out) rfl (rd_yes rfl (R3.out (by first | trivial | rfl)).2 L1.out.size (fun k hk => (PO.out k (by have := blk_lt Z6.out; omega)).trans (QO.out k (by have := blk_lt Z4.out; omega))) RL.out)
      · skip
        have HAR : Aside0 (a = 1 + aheadR f1) := ⟨by
          rw [← HA.out]
          refine aheadI_pad f1 HPB.out ?_
          have h8 := HPB.out
          unfold padB at h8
          simp only [Bool.and_eq_true] at h8
          have h9 := h8.2
          rw [E0.out.2.1, ← HFL.out, ← HK.out] at h9
          rw [E0.out.1]
          exact kFl8 t u H0.out HU.out.1 HU.out.2 h9⟩
        have hp0 : 0 < p.size := by have h1 := HPS.out; have h2 := HMA.out; have h3 := HAR.out; have h4 := aheadR_nonneg f1; omega
        have i0 : (0 : Int) < (p.size : Int) := by omega
        obtain ⟨v, hv⟩ : ∃ v, bt p 0 = v := ⟨_, rfl⟩
        have hv0 : ((p[0]'hp0).toNat : Int) = v := (bt_at p 0 hp0).trans hv
        have HVR : Aside0 (0 ≤ v ∧ v ≤ 255) := ⟨by have h := bt_range p 0; rw [hv] at h; exact h⟩
        have hwv : wrap64 v = v := by have h := HVR.out; unfold wrap64; omega
        have HVB := Aside0.mk hv
        have y4 := T4.out.own.c4
        have yf4 := blk_frozen T4.out.own 4
        clear hv
        go_upto_region 17 with fail
        obtain ⟨W5, hW5⟩ : ∃ W, w11.setCell ⟨g8, 4, none⟩ (.int .i64 v) = W := ⟨_, rfl⟩
        obtain ⟨f2, hf2⟩ : ∃ f, { f1 with pad := v } = f := ⟨_, rfl⟩
        have hT6 := T4.out.put4 v
        rw [hW5, hf2] at hT6
        have T6 := Aside0.mk hT6
        rw [hW5]
        have E2 : Aside0 (f2.ty = f1.ty ∧ f2.fl = f1.fl ∧ f2.st = f1.st ∧ f2.ps = f1.ps) := ⟨by rw [← hf2]; exact ⟨rfl, rfl, rfl, rfl⟩⟩
        have HT2 : Aside0 (0 ≤ f2.ty) := ⟨by rw [E2.out.1]; exact H01.out⟩
        have HA2 : Aside0 (aheadI f2 = a) := ⟨by rw [← hf2]; exact HA.out⟩
        have HAR2 : Aside0 (aheadR f2 = aheadR f1) := ⟨by rw [← hf2]; rfl⟩
        have HV4 : Aside0 (f2.pad = v) := ⟨by rw [← hf2]⟩
        have HF2 := Aside0.mk hf2
        clear hW5 hT6 hf2 y4 yf4 hv0 hwv hp0 i0
        have c4 := (T6.out.below (below_drew (Below.refl _ _))).own.c4
        rw [HV4.out] at c4
        obtain ⟨d, hd⟩ : ∃ d, (m : Int) - a = d := ⟨_, rfl⟩
        have HD := Aside0.mk hd
        have hwd : wrap64 ((m : Int) - a) = d := by
          have h1 := HM.out
          have h2 := HMA.out
          have h3 := HAR.out
          have h4 := aheadR_nonneg f1
          rw [← hd]
          unfold wrap64
          omega
        clear hd
        refine start_ (n := 6) (S := fun w' => w'.cell? ⟨g8, 4, none⟩ = some (.int .i64 v) ∧ TInv W1 w' g8 f2 none 0) (ds := []) #[false, false, false, false, false, false] (by kernel_rfl) rfl rfl ⟨c4, T6.out.below (below_drew (Below.refl _ _))⟩ (fun hHeld => ?_)
        refine pure_ (i := 0) (N := some 66) (v := ?_) (a' := ?_) #[true, false, false, false, false, false] rfl rfl (by kernel_rfl) (fun _ _ _ h => h) (Or.inl ⟨by rfl, ?_⟩) ?_ ?_
        rotate_left
        · intro w'
          go_simp
          with_reducible rfl
        rotate_left
        · simp only [Act.put, List.setIfInBounds_toArray, List.set_cons_zero, List.set_cons_succ, i64_w, i32_w]
          rfl
        refine pure_ (i := 2) (N := some 68) (v := ?_) (a' := ?_) #[true, false, true, false, false, false] rfl rfl (by kernel_rfl) (fun _ _ _ h => h) (Or.inl ⟨by rfl, ?_⟩) ?_ ?_
        rotate_left
        · intro w'
          go_simp
          with_reducible rfl
        rotate_left
        · simp only [Act.put, List.setIfInBounds_toArray, List.set_cons_zero, List.set_cons_succ, i64_w, i32_w]
          rfl
        refine take_ (i := 1) (N := some 67) (v := ?_) (a' := ?_) #[true, true, true, false, false, false] rfl rfl (by kernel_rfl) (fun _ _ _ h => h) (Or.inl ⟨by rfl, ?_⟩) hHeld ?_ ?_
        rotate_left
        · rintro w' ⟨s0, s1⟩
          go_simp
          with_reducible rfl
        rotate_left
        · simp only [Act.put, List.setIfInBounds_toArray, List.set_cons_zero, List.set_cons_succ, i64_w, i32_w]
          rfl
        refine one_ (i := 3) (N := some 69) #[true, true, true, true, false, false] rfl rfl (by kernel_rfl) (by decide) (fun K hK => ?_)
        refine goes_ Tryd.func60 (by kernel_rfl) rfl #[.pointer (some ⟨g8, 0, none⟩)] (by rfl) rfl rfl (by simp only [List.map_toArray, List.map_cons, List.map_nil]; rfl) ?_
        with_reducible refine (ahead_calls g8 f2 none 0 a _ hHeld.2.own (HG.out.below (below_then L1.out L1.out.size hHeld.2.low)) HT2.out HA2.out).mono ?_
        rintro e w17 ⟨rfl, hb⟩
        refine ⟨_, rfl, ?_⟩
        have T17 := Aside0.mk (hHeld.2.below hb)
        refine hK.out _ _ ⟨T17.out.own.c4.trans (by rw [HV4.out]), T17.out⟩ (fun hHeld => ?_)
        clear hK K
        refine norm_ (a' := ?_) ?_ ?_
        rotate_left
        · show Act.put _ (some 69) _ = _
          simp only [Act.put, List.setIfInBounds_toArray, List.set_cons_zero, List.set_cons_succ, i64_w, i32_w]
          rfl
        refine pure_ (i := 4) (N := some 70) (v := ?_) (a' := ?_) #[true, true, true, true, true, false] rfl rfl (by kernel_rfl) (fun _ _ _ h => h) (Or.inl ⟨by rfl, ?_⟩) ?_ ?_
        rotate_left
        · intro w'
          go_simp
          with_reducible rfl
        rotate_left
        · simp only [Act.put, List.setIfInBounds_toArray, List.set_cons_zero, List.set_cons_succ, i64_w, i32_w]
          rfl
        refine pure_ (i := 5) (N := some 71) (v := ?_) (a' := ?_) #[true, true, true, true, true, true] rfl rfl (by kernel_rfl) (fun _ _ _ h => h) (Or.inl ⟨by rfl, ?_⟩) ?_ ?_
        rotate_left
        · intro w'
          go_simp
          with_reducible rfl
        rotate_left
        · simp only [Act.put, List.setIfInBounds_toArray, List.set_cons_zero, List.set_cons_succ, i64_w, i32_w]
          rfl
        refine done_ (by kernel_rfl) ?_
        repeat (rename World.cell? _ _ = _ ∧ _ => hh; clear hh)
        clear c4
        go_upto_if 71 with fail
        by_cases hdv : d < v
        · have HV : Aside0 (R = .bad 1) := ⟨by rw [← HR.out]; exact rdRest_pad f1 m p HSB.out (by rw [HA.out]; exact Int.not_lt.mpr HMA.out) ⟨HPB.out, by rw [HA.out, HD.out, HVB.out]; exact hdv⟩⟩
          have hdv1 : decide (d < v) = true := decide_eq_true hdv
          rw [hdv1]
          clear hdv
          have Y4 := Aside0.mk (Z4.out.low T17.out.low)
          have Y6 := Aside0.mk (blk_below Z6.out T17.out.low)
          have L3 := Aside0.mk (below_then L1.out L1.out.size T17.out.low)
          go_wp2_with (first | (refine wpList_store_row rfl 24 _ _ rfl g4 #[.int .i64 0, .int .i64 0, .int .i64 0, .string ⟨#[]⟩, .int .i64 0, .int .i64 0, .bool false, .int .i64 0, .int .i64 0, .int .i64 0, .slice none 0 0] rfl rfl 24 _ Y4.out (by kernel_rfl) (by kernel_rfl) (by kernel_rfl) ?_; obtain ⟨W8, e8, q4, qo, qb⟩ := row_store _ g4 _ 24 _ Y4.out; rw [e8]; have Q4 := Aside0.mk q4; have Q6 := Aside0.mk ((qo _ (by have := HG6.out; omega)).trans Y6.out); have QO := Aside0.mk qo; have QL := Aside0.mk (qb _ _ L3.out (by have := HG4.out; omega)); clear q4 qo qb e8) | (refine wpList_store_row rfl 35 _ _ rfl g6 #[.int .i64 1, .int .i64 0] rfl rfl 35 _ Q6.out (by kernel_rfl) (by kernel_rfl) (by kernel_rfl) ?_; obtain ⟨W9, e9, p6, po, pb⟩ := row_store _ g6 _ 35 _ Q6.out; rw [e9]; have R6 := Aside0.mk p6; have R4 := Aside0.mk ((po _ (by have := HG6.out; omega)).trans Q4.out); have PO := Aside0.mk po; have RL := Aside0.mk (pb _ _ QL.out (by have := HG4.out; have := HG6.out; omega)); clear p6 po pb e9))
          rw [HV.out]
          exact bodyPost_ret (res20 _ _ g4 g6 Fr.zero none 0 0 1 0 rfl rfl rfl R4.out R6.out) rfl (RdPost.zero 0 1 0 rfl RL.out)
        · have hdv1 : decide (d < v) = false := decide_eq_false hdv
          have HDV := Aside0.mk hdv
          rw [hdv1]
          clear hdv
          obtain ⟨r, hr⟩ : ∃ r : Nat, (m : Int) - v = r := ⟨((m : Int) - v).toNat, by have h1 := HD.out; have h2 := HDV.out; have h3 := HAR.out; have h4 := aheadR_nonneg f1; omega⟩
          have HRR := Aside0.mk hr
          have hwr : wrap64 ((m : Int) - v) = (r : Int) := by rw [hr]; have h1 := HVR.out; have h2 := HM.out; unfold wrap64; omega
          have j1 : (1 : Int) ≤ (r : Int) := by have h1 := HD.out; have h2 := HDV.out; have h3 := HAR.out; have h4 := aheadR_nonneg f1; omega
          have j2 : (r : Int) ≤ (p.size : Int) := by have h1 := HPS.out; have h2 := HVR.out; omega
          have z4 := T17.out.own.c4
          rw [HV4.out] at z4
          clear hr
          go_upto_region 20 with fail
          obtain ⟨p2, hp2⟩ : ∃ x, p.extract 1 r = x := ⟨_, rfl⟩
          have HP2S : Aside0 (p2.size = r - 1) := ⟨by rw [← hp2]; simp; omega⟩
          have HP2 := Aside0.mk hp2
          rw [hp2]
          clear hp2 z4 hwr j1 j2
          have HH1 : Aside0 (f2.ty = 1 → has f2.fl 32 = true → 5 ≤ p2.size) := ⟨fun h1 h2 => by have e1 := aheadR_1 f2 h1 h2; have e2 := HAR2.out; have e3 := HAR.out; have e4 := HD.out; have e5 := HDV.out; have e6 := HRR.out; have e7 := HP2S.out; omega⟩
          have HH5 : Aside0 (f2.ty = 5 → 4 ≤ p2.size) := ⟨fun h1 => by have e1 := aheadR_5 f2 h1; have e2 := HAR2.out; have e3 := HAR.out; have e4 := HD.out; have e5 := HDV.out; have e6 := HRR.out; have e7 := HP2S.out; omega⟩
          have HSZP : Aside0 (p2.size ≤ 65536) := ⟨by have h1 := HP2S.out; have h2 := HRR.out; have h3 := HVR.out; have h4 := HM.out; omega⟩
          obtain ⟨xb, hxb⟩ : ∃ z, (takes f2 p2).isSome = z := ⟨_, rfl⟩
          obtain ⟨N, M, hTK⟩ := take_any g8 f2 p2 xb W1 _ T17.out (E2.out.2.2.2.trans E0.out.2.2.2) HSZP.out HH1.out HH5.out hxb
          have TK := Aside0.mk hTK
          have hcf := hTK.2.2
          have HXB := Aside0.mk hxb
          clear hTK hxb
          have z0 := T17.out.own.c0
          have hfd := fldF1
          go_upto_if 86 with (first | (go_at_call 48; refine (TK.out.1 _).mono ?_; rintro e w20 ⟨rfl, hb⟩; have B20 := Aside0.mk hb; clear hb) | (refine (TK.out.2.1 _ B20.out).mono ?_; rintro e w21 ⟨rfl, f3, A3, c3, ht3, hy3, hs3, hr3⟩; have T21 := Aside0.mk ht3; have Y3 := Aside0.mk hy3; have S3 := Aside0.mk hs3; have R3 := Aside0.mk hr3; clear ht3 hy3 hs3 hr3))
          clear z0 hfd hcf
          have HQI : Aside0 ((9 : Int) + m = q) := ⟨by have := HQ.out; omega⟩
          cases xb
          · have hnone : takes f2 p2 = none := by
              have h := HXB.out
              cases hh : takes f2 p2 with
              | none => rfl
              | some y => rw [hh] at h; cases h
            have HVN := Aside0.mk (rdRest_none f1 m p f2 p2 HSB.out (by rw [HA.out]; exact Int.not_lt.mpr HMA.out) (by rw [HA.out, HD.out, HVB.out]; exact fun h => Int.not_lt.mpr HDV.out h.2) (by rw [HPB.out, HVB.out]; exact HF2.out) (by rw [HPB.out, HVB.out, HRR.out, Int.toNat_natCast]; exact HP2.out) hnone)
            clear hnone
            have z3 := T21.out.own.c0
            rw [Y3.out, E2.out.1] at z3
            by_cases t2 : f1.ty = 2
            · have t2b : (f1.ty == 2) = true := by rw [t2]; rfl
              have HV : Aside0 (R = ⟨Fr.zero, q, 6, f1.st⟩) := ⟨by rw [← HR.out, HVN.out, if_pos t2, HQI.out]⟩
              clear t2
              go_upto_region 22 with fail
              clear z3
              have hD := T21.out.below (below_drew (Below.refl _ _))
              have d0 := hD.own.c2
              rw [S3.out, E2.out.2.2.1] at d0
              have d1 := Z4.out.low hD.low
              have d2 := blk_below Z6.out hD.low
              have d3 := below_then L1.out L1.out.size hD.low
              clear hD
              refine start_ (n := 9) (S := fun w' => w'.cell? ⟨g8, 2, none⟩ = some (.int .i64 f1.st) ∧ At w' g4 Fr.zero none 0 ∧ w'.heap[g6]? = some (.cells #[.int .i64 0, .int .i64 0] 35 (0, 0)) ∧ Below w.heap.size w w') (ds := [8]) #[false, false, false, false, false, false, false, false, false] (by kernel_rfl) rfl rfl ⟨d0, d1, d2, d3⟩ (fun hHeld => ?_)
              refine pure_ (i := 0) (N := some 90) (v := ?_) (a' := ?_) #[true, false, false, false, false, false, false, false, false] rfl rfl (by kernel_rfl) (fun _ _ _ h => h) (Or.inl ⟨by rfl, ?_⟩) ?_ ?_
              rotate_left
              · intro w'
                go_simp
                with_reducible rfl
              rotate_left
              · simp only [Act.put, List.setIfInBounds_toArray, List.set_cons_zero, List.set_cons_succ, i64_w, i32_w]
                rfl
              refine pure_ (i := 1) (N := some 91) (v := ?_) (a' := ?_) #[true, true, false, false, false, false, false, false, false] rfl rfl (by kernel_rfl) (fun _ _ _ h => h) (Or.inl ⟨by rfl, ?_⟩) ?_ ?_
              rotate_left
              · intro w'
                go_simp
                with_reducible rfl
              rotate_left
              · simp only [Act.put, List.setIfInBounds_toArray, List.set_cons_zero, List.set_cons_succ, i64_w, i32_w]
                rfl
              refine pure_ (i := 2) (N := some 92) (v := ?_) (a' := ?_) #[true, true, true, false, false, false, false, false, false] rfl rfl (by kernel_rfl) (fun _ _ _ h => h) (Or.inl ⟨by rfl, ?_⟩) ?_ ?_
              rotate_left
              · intro w'
                go_simp
                with_reducible rfl
              rotate_left
              · simp only [Act.put, List.setIfInBounds_toArray, List.set_cons_zero, List.set_cons_succ, i64_w, i32_w]
                rfl
              refine pure_ (i := 3) (N := some 93) (v := ?_) (a' := ?_) #[true, true, true, true, false, false, false, false, false] rfl rfl (by kernel_rfl) (fun _ _ _ h => h) (Or.inl ⟨by rfl, ?_⟩) ?_ ?_
              rotate_left
              · intro w'
                go_simp
                with_reducible rfl
              rotate_left
              · simp only [Act.put, List.setIfInBounds_toArray, List.set_cons_zero, List.set_cons_succ, i64_w, i32_w]
                rfl
              refine take_ (i := 4) (N := some 94) (v := ?_) (a' := ?_) #[true, true, true, true, true, false, false, false, false] rfl rfl (by kernel_rfl) (fun _ _ _ h => h) (Or.inl ⟨by rfl, ?_⟩) hHeld ?_ ?_
              rotate_left
              · rintro w' ⟨s0, s1, s2, s3⟩
                go_simp
                with_reducible rfl
              rotate_left
              · simp only [Act.put, List.setIfInBounds_toArray, List.set_cons_zero, List.set_cons_succ, i64_w, i32_w]
                rfl
              refine pure_ (i := 5) (N := some 95) (v := ?_) (a' := ?_) #[true, true, true, true, true, true, false, false, false] rfl rfl (by kernel_rfl) (fun _ _ _ h => h) (Or.inl ⟨by rfl, ?_⟩) ?_ ?_
              rotate_left
              · intro w'
                go_simp
                with_reducible rfl
              rotate_left
              · simp only [Act.put, List.setIfInBounds_toArray, List.set_cons_zero, List.set_cons_succ, i64_w, i32_w]
                rfl
              refine one_ (i := 6) (N := none) #[true, true, true, true, true, true, true, false, false] rfl rfl (by kernel_rfl) (by decide) (fun K hK => ?_)
              refine skip_row 24 _ _ rfl (by rfl) rfl g4 #[.int .i64 0, .int .i64 0, .int .i64 0, .string ⟨#[]⟩, .int .i64 0, .int .i64 0, .bool false, .int .i64 0, .int .i64 0, .int .i64 0, .slice none 0 0] rfl rfl 24 _ hHeld.2.1 (by kernel_rfl) (by kernel_rfl) (by kernel_rfl) ?_
              obtain ⟨W8, e8, q4, qo, qb⟩ := row_store _ g4 #[.int .i64 0, .int .i64 0, .int .i64 0, .string ⟨#[]⟩, .int .i64 0, .int .i64 0, .bool false, .int .i64 0, .int .i64 0, .int .i64 0, .slice none 0 0] 24 _ hHeld.2.1
              rw [e8]
              refine hK.out _ _ ⟨(cell_same (qo g8 (by have := HG8.out; have := HG6.out; omega)) 2).trans hHeld.1, q4, (qo g6 (by have := HG6.out; omega)).trans hHeld.2.2.1, qb _ _ hHeld.2.2.2 (by have := HG4.out; omega)⟩ (fun hHeld => ?_)
              clear hK K
              refine pure_ (i := 7) (N := some 5) (v := ?_) (a' := ?_) #[true, true, true, true, true, true, true, true, false] rfl rfl (by kernel_rfl) (fun _ _ _ h => h) (Or.inl ⟨by rfl, ?_⟩) ?_ ?_
              rotate_left
              · intro w'
                go_simp
                with_reducible rfl
              rotate_left
              · simp only [Act.put, List.setIfInBounds_toArray, List.set_cons_zero, List.set_cons_succ, i64_w, i32_w]
                rfl
              refine last_ (i := 8) (N := none) #[true, true, true, true, true, true, true, true, true] rfl rfl (by kernel_rfl) (by decide) (fun K hK => ?_)
              refine skip_row 35 _ _ rfl (by rfl) rfl g6 #[.int .i64 6, .int .i64 f1.st] rfl rfl 35 _ hHeld.2.2.1 (by kernel_rfl) (by kernel_rfl) (by kernel_rfl) ?_
              obtain ⟨W9, e9, p6, po, pb⟩ := row_store _ g6 #[.int .i64 6, .int .i64 f1.st] 35 _ hHeld.2.2.1
              rw [e9]
              have R6 := Aside0.mk p6
              have R4 := Aside0.mk ((po _ (by have := HG6.out; omega)).trans hHeld.2.1)
              have RL := Aside0.mk (pb _ _ hHeld.2.2.2 (by have := HG4.out; have := HG6.out; omega))
              refine hK.out _ _ ?_
              clear hK K
              refine done_ (by kernel_rfl) ?_
              go_wp2_with fail
              rw [HV.out]
              exact bodyPost_ret (res20 _ _ g4 g6 Fr.zero none 0 q 6 f1.st rfl rfl rfl R4.out R6.out) rfl (RdPost.zero q 6 f1.st rfl RL.out)
            · have t2b : (f1.ty == 2) = false := beq_eq_false_iff_ne.mpr t2
              have HV : Aside0 (R = .bad 6) := ⟨by rw [← HR.out, HVN.out, if_neg t2]⟩
              clear t2
              have Y4 := Aside0.mk (Z4.out.low T21.out.low)
              have Y6 := Aside0.mk (blk_below Z6.out T21.out.low)
              have L3 := Aside0.mk (below_then L1.out L1.out.size T21.out.low)
              go_wp2_with (first | (refine wpList_store_row rfl 24 _ _ rfl g4 #[.int .i64 0, .int .i64 0, .int .i64 0, .string ⟨#[]⟩, .int .i64 0, .int .i64 0, .bool false, .int .i64 0, .int .i64 0, .int .i64 0, .slice none 0 0] rfl rfl 24 _ Y4.out (by kernel_rfl) (by kernel_rfl) (by kernel_rfl) ?_; obtain ⟨W8, e8, q4, qo, qb⟩ := row_store _ g4 _ 24 _ Y4.out; rw [e8]; have Q4 := Aside0.mk q4; have Q6 := Aside0.mk ((qo _ (by have := HG6.out; omega)).trans Y6.out); have QO := Aside0.mk qo; have QL := Aside0.mk (qb _ _ L3.out (by have := HG4.out; omega)); clear q4 qo qb e8) | (refine wpList_store_row rfl 35 _ _ rfl g6 #[.int .i64 6, .int .i64 0] rfl rfl 35 _ Q6.out (by kernel_rfl) (by kernel_rfl) (by kernel_rfl) ?_; obtain ⟨W9, e9, p6, po, pb⟩ := row_store _ g6 _ 35 _ Q6.out; rw [e9]; have R6 := Aside0.mk p6; have R4 := Aside0.mk ((po _ (by have := HG6.out; omega)).trans Q4.out); have PO := Aside0.mk po; have RL := Aside0.mk (pb _ _ QL.out (by have := HG4.out; have := HG6.out; omega)); clear p6 po pb e9))
              rw [HV.out]
              exact bodyPost_ret (res20 _ _ g4 g6 Fr.zero none 0 0 6 0 rfl rfl rfl R4.out R6.out) rfl (RdPost.zero 0 6 0 rfl RL.out)
          · have HV : Aside0 (R = ⟨f3, q, 0, 0⟩) := ⟨by rw [← HR.out, rdRest_some f1 m p f2 p2 f3 HSB.out (by rw [HA.out]; exact Int.not_lt.mpr HMA.out) (by rw [HA.out, HD.out, HVB.out]; exact fun h => Int.not_lt.mpr HDV.out h.2) (by rw [HPB.out, HVB.out]; exact HF2.out) (by rw [HPB.out, HVB.out, HRR.out, Int.toNat_natCast]; exact HP2.out) (R3.out (by first | trivial | rfl)).1, HQI.out]⟩
            have Y4 := Aside0.mk (Z4.out.low T21.out.low)
            have Y6 := Aside0.mk (blk_below Z6.out T21.out.low)
            have L3 := Aside0.mk (below_then L1.out L1.out.size T21.out.low)
            go_wp2_with (first | (refine wpList_load_row rfl 24 _ rfl g8 rfl 24 (f3.cells A3 c3) (0, 0) _ T21.out.own Tryd.underlying24 (by rfl) (by kernel_rfl) ?_) | (refine wpList_store_row rfl 24 _ _ rfl g4 (f3.cells A3 c3) rfl rfl 24 _ Y4.out (by kernel_rfl) (by kernel_rfl) (by kernel_rfl) ?_; obtain ⟨W8, e8, q4, qo, qb⟩ := row_store _ g4 _ 24 _ Y4.out; rw [e8]; have Q4 := Aside0.mk q4; have Q6 := Aside0.mk ((qo _ (by have := HG6.out; omega)).trans Y6.out); have QO := Aside0.mk qo; have QL := Aside0.mk (qb _ _ L3.out (by have := HG4.out; omega)); clear q4 qo qb e8) | (refine wpList_store_row rfl 35 _ _ rfl g6 #[.int .i64 0, .int .i64 0] rfl rfl 35 _ Q6.out (by kernel_rfl) (by kernel_rfl) (by kernel_rfl) ?_; obtain ⟨W9, e9, p6, po, pb⟩ := row_store _ g6 _ 35 _ Q6.out; rw [e9]; have R6 := Aside0.mk p6; have R4 := Aside0.mk ((po _ (by have := HG6.out; omega)).trans Q4.out); have PO := Aside0.mk po; have RL := Aside0.mk (pb _ _ QL.out (by have := HG4.out; have := HG6.out; omega)); clear p6 po pb e9))
            rw [HV.out]
            exact bodyPost_ret (res20 _ _ g4 g6 f3 A3 c3 q 0 0 rfl rfl rfl R4.out R6.out) rfl (rd_yes rfl (R3.out (by first | trivial | rfl)).2 L1.out.size (fun k hk => (PO.out k (by have := blk_lt Z6.out; omega)).trans (QO.out k (by have := blk_lt Z4.out; omega))) RL.out)
/-- Read tells the plain answer. -/
theorem read_calls (b : ByteArray) (most : Int) (w : World) (hG : GL w) (h63 : b.size ≤ 9223372036854775807) : Calls Tryd.prog 20 #[.string b, .int .i64 most] w fun e w' => RdPost w (rdF b most) e w' := by
  unfold rdF
  by_cases h9 : b.size < 9
  · rw [if_pos h9]
    exact read_short b most w h9
  · rw [if_neg h9]
    by_cases hl : min (max most 16384) 65536 < rdN b
    · rw [if_pos hl]
      exact read_long b most w (by omega) hl
    · rw [if_neg hl]
      by_cases hp : (b.size : Int) - 9 < rdN b
      · rw [if_pos hp]
        exact read_part b most w h63 (by omega) hl hp
      · rw [if_neg hp]
        exact read_rest b most w hG h63 (by omega) hl hp
end Go.Proofs.YtoffhlbdfhhhjaaDoor.Fr
namespace Go.Proofs.YtoffhlbdfhhhjaaDoor.Fr
open Go Go.RowKit Go.Proofs.YtoffhlbdfhhhjaaDoorW.PrintWords Go.Proofs.YtoffhlbdfhhhjaaDoorW.PrintLast Go.Proofs.YtoffhlbdfhhhjaaDoorW.PrintMore Go.Proofs.YtoffhlbdfhhhjaaDoor.QL
set_option linter.unusedSimpArgs false
set_option linter.unusedVariables false
set_option maxHeartbeats 40000000
set_option maxRecDepth 100000
theorem C_nil (w : World) : Kd.C k32 w none 0 [] := (Kd.R_reads' (Kd.R_nil k32 32 w 0 (fun _ => True))).2.2
theorem C_one32 (W : World) (a b : Int) (n : Nat) (hn : n = W.heap.size) : Kd.C k32 (W.alloc (.cells #[.int .i64 a, .int .i64 b] 32)) (some ⟨n, 0, none⟩) 1 [⟨a, b⟩] := by
  subst hn
  refine ⟨rfl, by omega, fun _ => ⟨_, rfl, fun j p hp => ⟨[.int .i64 p.f0, .int .i64 p.f1], rfl, k32_mk _ p, fun i u hu => ?_⟩⟩⟩
  obtain rfl : j = 0 := by have := (List.getElem?_eq_some_iff.1 hp).1; simpa using this
  have e1 : (⟨a, b⟩ : S32) = p := by simpa using hp
  subst e1
  have hi : i < 2 := by have := (List.getElem?_eq_some_iff.1 hu).1; simpa using this
  show (W.alloc _).cell? ((⟨W.heap.size, 0, none⟩ : Addr).add (0 * 2 + i)) = _
  rw [add_plain, World.cell?_alloc_new]
  obtain rfl | rfl : i = 0 ∨ i = 1 := by omega
  all_goals simpa using hu
end Go.Proofs.YtoffhlbdfhhhjaaDoor.Fr
