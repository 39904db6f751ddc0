/- FeedFrames: always true. The package's variable holds what the program lays; the arguments fit in memory. -/
import Derived.Test.YtoffhlbdfhhhjaaDoorMFdU
import Derived.Test.YtoffhlbdfhhhjaaDoorMFdV
import Derived.Test.YtoffhlbdfhhhjaaDoorMFrK
import Derived.Test.YtoffhlbdfhhhjaaDoorMFg7
namespace Go.Proofs.YtoffhlbdfhhhjaaDoor.Fr
open Go Go.RowKit Go.Proofs.YtoffhlbdfhhhjaaDoorW.PrintWords Go.Proofs.YtoffhlbdfhhhjaaDoorW.PrintLast Go.Proofs.YtoffhlbdfhhhjaaDoorW.PrintMore Go.Proofs.YtoffhlbdfhhhjaaDoor.QL
set_option linter.unusedSimpArgs false
set_option linter.unusedVariables false
set_option maxHeartbeats 40000000
set_option maxRecDepth 100000
/-- A frame whose params lie in the world w0. -/
def kFix (w0 : World) : Kd Fr where
  sz := 11
  E := []
  K _ f cs := ∃ A c, cs = (f.cells A c).toList ∧ f.ps.length ≤ c ∧ Kd.C k32 w0 A f.ps.length f.ps
  M _ _ _ f cs := ∃ A c, cs = (f.cells A c).toList ∧ f.ps.length ≤ c ∧ Kd.C k32 w0 A f.ps.length f.ps
  K_len := by rintro _ _ _ ⟨A, c, rfl, _⟩; rfl
  K_one := by
    rintro _ _ _ ⟨A, c, rfl, _⟩ u hu
    simp only [Fr.cells, List.mem_cons, List.not_mem_nil, or_false] at hu
    rcases hu with rfl | rfl | rfl | rfl | rfl | rfl | rfl | rfl | rfl | rfl | rfl <;> rfl
  K_below := fun _ h => h
  K_of_M := fun h => h
  M_mono := fun _ h => h
  M_bound := fun h => h
  M_move := fun _ h => h
  M_lower := fun _ h => h
def toFr (x : S24) : Fr := ⟨x.f0, x.f1, x.f2, x.f3, x.f4, x.f5, x.f6, x.f7, x.f8, x.f9, x.f10⟩
theorem fix_of {w : World} {A : Option Addr} {n : Nat} {l : List S24} (h : Kd.C k24 w A n l) : Kd.C (kFix w) w A n (l.map toFr) := by
  obtain ⟨h1, h2, h3⟩ := h
  refine ⟨by rw [List.length_map]; exact h1, h2, fun hn => ?_⟩
  obtain ⟨ad, e, hc⟩ := h3 hn
  refine ⟨ad, e, fun j p hj => ?_⟩
  rw [List.getElem?_map] at hj
  obtain ⟨x, hx, rfl⟩ := Option.map_eq_some_iff.1 hj
  obtain ⟨c, hs, hk, hcell⟩ := hc j x hx
  obtain ⟨A', c', rfl, hl, hC⟩ := k24_open hk
  exact ⟨_, hs, ⟨A', c', rfl, hl, hC⟩, hcell⟩
theorem addr_add (a : Addr) (m n : Nat) : (a.add m).add n = a.add (m + n) := by
  unfold Addr.add
  by_cases hm : m = 0
  · subst hm; simp
  · by_cases hn : n = 0
    · subst hn; simp
    · simp [hm, hn, Nat.add_assoc]
/-- The j-th frame of a row. -/
theorem fix_get {w0 W : World} {A : Option Addr} {n : Nat} {xs : List Fr} (h : Kd.C (kFix w0) W A n xs) (j : Nat) (x : Fr) (hx : xs[j]? = some x) : ∃ ad A' c', A = some ad ∧ x.ps.length ≤ c' ∧ Kd.C k32 w0 A' x.ps.length x.ps ∧ ∀ i u, (x.cells A' c').toList[i]? = some u → W.cell? ((ad.add (j * 11)).add i) = some u := by
  obtain ⟨h1, h2, h3⟩ := h
  obtain ⟨ad, e, hc⟩ := h3 (by have := (List.getElem?_eq_some_iff.1 hx).1; omega)
  obtain ⟨c, hs, ⟨A', c', rfl, hl, hC⟩, hcell⟩ := hc j x hx
  exact ⟨ad, A', c', e, hl, hC, fun i u hu => by rw [addr_add]; exact hcell i u hu⟩
theorem run_loadVar_list {P : Program} (w : World) (ad : Addr) (ty : TypeId) (cs : Array Value) (d : TypeDesc) (hg : ∀ j u, cs.toList[j]? = some u → w.cell? (ad.add j) = some u)
    (hu : P.underlying ty = some d) (hd : (match d with | .struct _ | .array _ _ => true | _ => false) = true) (hi : (P.info? ty).map (·.size) = some cs.size) :
    (loadVar ty ad).run P w = .ok (.agg cs) w := by
  have hl : (loadCells ad cs.toList.length).run P w = .ok cs.toList.toArray w := run_loadCells_list (P := P) w ad cs.toList hg
  cases hq : P.info? ty with
  | none => simp [hq] at hi
  | some i =>
    have hs : i.size = cs.size := by simpa [hq] using hi
    have hagg : (isAgg ty).run P w = .ok true w := by
      unfold isAgg
      rw [Sem.run_bind, run_underlying hu w]
      cases d <;> simp_all
    simp only [Array.length_toList, Array.toArray_toList] at hl
    simp [loadVar, Sem.run_bind, hagg, sizeOf, typeInfo, hq, hs, hl]
theorem load_list_run {P : Program} {o : Oper} {ev : Operand → Value} {w : World} (ty : TypeId) (x : Operand) (ho : o.op = .load ty x)
    (ad : Addr) (hx : ev x = .pointer (some ad)) (cs : Array Value) (d : TypeDesc) (hg : ∀ j u, cs.toList[j]? = some u → w.cell? (ad.add j) = some u)
    (hu : P.underlying ty = some d) (hd : (match d with | .struct _ | .array _ _ => true | _ => false) = true) (hi : (P.info? ty).map (·.size) = some cs.size) :
    (execOp ev o).run P w = .ok (.value (.agg cs)) w := by
  unfold execOp
  simp only [ho, hx, Instr.loadAt, Instr.sureAddr, Sem.run_bind, Sem.run_pure, Result.andThen_ok, run_loadVar_list w ad ty cs d hg hu hd hi]
theorem wp_load_list {P : Program} {o : Oper} {a : Act} {w : World} {K : Act → World → Prop} {Q : Exit → Act → World → Prop} (ty : TypeId) (x : Operand) (ho : o.op = .load ty x)
    (ad : Addr) (hx : a.eval x = .pointer (some ad)) (cs : Array Value) (d : TypeDesc) (hg : ∀ j u, cs.toList[j]? = some u → w.cell? (ad.add j) = some u)
    (hu : P.underlying ty = some d) (hd : (match d with | .struct _ | .array _ _ => true | _ => false) = true) (hi : (P.info? ty).map (·.size) = some cs.size)
    (h : K (a.put o.dst (.agg cs)) w) : o.wp P a w K Q := by
  unfold Oper.wp execOp
  simp only [ho, hx, Instr.loadAt, Instr.sureAddr, Sem.run_bind, Sem.run_pure, Result.andThen_ok, run_loadVar_list w ad ty cs d hg hu hd hi]
  exact h
theorem wpList_load_list {P : Program} {ops : Array Oper} {rest : List Oper} {o : Oper} {a : Act} {w : World} {Q : Exit → Act → World → Prop} (hgd : o.guard = none) (ty : TypeId) (x : Operand) (ho : o.op = .load ty x)
    (ad : Addr) (hx : a.eval x = .pointer (some ad)) (cs : Array Value) (d : TypeDesc) (hg : ∀ j u, cs.toList[j]? = some u → w.cell? (ad.add j) = some u)
    (hu : P.underlying ty = some d) (hd : (match d with | .struct _ | .array _ _ => true | _ => false) = true) (hi : (P.info? ty).map (·.size) = some cs.size)
    (h : wpList P ops Q rest (a.put o.dst (.agg cs)) w) : wpList P ops Q (o :: rest) a w :=
  wpList_plain hgd fun _ hK => wp_load_list ty x ho ad hx cs d hg hu hd hi (hK _ _ h)
theorem Chg.rowK {g base : Nat} {w0 w w' : World} {f : Fd} {ok : Nat → Prop} {v : Value} {xs : List Fr} (h : Chg g w w') (hf : FAt w g f) (hr : Kd.R (kFix w0) 24 w base ok v xs) : Kd.R (kFix w0) 24 w' base ok v xs :=
  Kd.R_mono (Kd.R_step (Kd.R_types hr hf (by intro q hq; have : q = 24 := by simpa [kFix] using hq
                                             subst this; decide)) (fun k hk hlt => h.block k hlt hk.2)) (fun _ hk => hk.1)
/-- What a frame of the arguments keeps to. -/
structure GoodF (f : Fr) : Prop where
  da : f.da.size ≤ 140737488351232
  ps : f.ps.length * 16 ≤ 140737488351232
  fl0 : -9223372036854775808 ≤ f.fl
  fl1 : f.fl ≤ 9223372036854775807
theorem wrs_len (l : List Fr) : (wrs (okF l)).length ≤ 65545 * l.length := by
  induction l with
  | nil => exact Nat.zero_le _
  | cons x l ih =>
    unfold okF at ih ⊢
    rw [List.filter_cons]
    split
    · rename_i hx
      have e := wr_len (wr_two x (by simpa using hx))
      show ((wr x).2 ++ wrs (List.filter (fun f => (wr f).1 == 0) l)).length ≤ _
      rw [List.length_append, List.length_cons]
      omega
    · rw [List.length_cons]
      omega
/-- What is pushed of the last frame: nothing, or a part of its bytes. -/
def PartP (last : Fr) (b part : ByteArray) : Prop := part.size = 0 ∨ ∃ k, Fr.wr last = (0, b.data.toList) ∧ 0 < k ∧ k < b.size ∧ b.size ≤ 65545 ∧ part = b.extract 0 k ∧ part.size = k
theorem part_of {last : Fr} {b : ByteArray} (h : Fr.wr last = (0, b.data.toList) ∧ 9 ≤ b.size ∧ b.size ≤ 65545) {n : Nat} (hn : n < b.size) : PartP last b (b.extract 0 n) := by
  have hs : (b.extract 0 n).size = n := by rw [ByteArray.size_extract]; omega
  by_cases h0 : n = 0
  · exact .inl (by rw [hs, h0])
  · exact .inr ⟨n, h.1, by omega, hn, h.2.2, rfl, hs⟩
/-- Next where a frame is told. -/
theorem next_told (g : Nat) (f f' : Fd) (x : Fr) (W : World) (hG : GL W) (h : FAt W g f) (hs : f.wt.size ≤ 9223372036854775807) (hp : f.pf.size ≤ 9223372036854775807) (hn : nextF f = (f', ⟨x, true, 0, 0⟩)) :
    Calls Tryd.prog 36 #[.pointer (some ⟨g, 0, none⟩)] W fun e w' => ∃ A c, e = .returned (.tuple #[.agg #[.int .i64 x.ty, .int .i64 x.fl, .int .i64 x.st, .string x.da, .int .i64 x.pad, .int .i64 x.dep, .bool x.ex, .int .i64 x.wt, .int .i64 x.co, .int .i64 x.la, .slice A x.ps.length c], .bool true, .agg #[.int .i64 0, .int .i64 0]]) ∧ (Kd.C k32 w' A x.ps.length x.ps ∧ x.ps.length ≤ c) ∧ FAt w' g f' ∧ Chg g W w' := by
  refine (next_calls g f W hG h hs hp).mono ?_
  rintro e w' hx
  rw [hn] at hx
  obtain ⟨A, c, rfl, hr, hf, hc⟩ := hx
  have h2 := Kd.R_reads' hr
  exact ⟨A, c, rfl, ⟨h2.2.2, h2.2.1⟩, hf, hc⟩
theorem next_none (g : Nat) (f f' : Fd) (W : World) (hG : GL W) (h : FAt W g f) (hs : f.wt.size ≤ 9223372036854775807) (hp : f.pf.size ≤ 9223372036854775807) (hn : nextF f = (f', ⟨Fr.zero, false, 0, 0⟩)) :
    Calls Tryd.prog 36 #[.pointer (some ⟨g, 0, none⟩)] W fun e w' => ∃ A c, e = .returned (.tuple #[.agg #[.int .i64 0, .int .i64 0, .int .i64 0, .string ByteArray.empty, .int .i64 0, .int .i64 0, .bool false, .int .i64 0, .int .i64 0, .int .i64 0, .slice A 0 c], .bool false, .agg #[.int .i64 0, .int .i64 0]]) ∧ FAt w' g f' ∧ Chg g W w' := by
  refine (next_calls g f W hG h hs hp).mono ?_
  rintro e w' hx
  rw [hn] at hx
  obtain ⟨A, c, rfl, hr, hf, hc⟩ := hx
  exact ⟨A, c, rfl, hf, hc⟩
theorem GL.ch {g : Nat} {w w1 : World} {f : Fd} (h : GL w) (hf : FAt w g f) (hb : Chg g w w1) : GL w1 := h.chg (fat_ne h hf) hb
theorem load_row_run13 {P : Program} {o : Oper} {ev : Operand → Value} {w : World} (ty : TypeId) (x : Operand) (ho : o.op = .load ty x)
    (g : Nat) (hx : ev x = .pointer (some ⟨g, 0, none⟩)) (t : TypeId) (cs : Array Value) (fr : Nat × Nat) (d : TypeDesc) (hg : w.heap[g]? = some (.cells cs t fr))
    (hu : P.underlying ty = some d) (hd : (match d with | .struct _ | .array _ _ => true | _ => false) = true) (hi : (P.info? ty).map (·.size) = some cs.size) :
    (execOp ev o).run P w = .ok (.value (.agg cs)) w := by
  unfold execOp
  simp only [ho, hx, Instr.loadAt, Instr.sureAddr, Sem.run_bind, Sem.run_pure, Result.andThen_ok, run_loadVar_row w g t ty cs fr d hg hu hd hi]
theorem below_same {w W W1 : World} {gy : Nat} {o : Obj} (hb : Below w.heap.size w W) (h0 : W.heap[gy]? = some o) (h4 : W1.heap[gy]? = some o) (ho : ∀ k : Nat, k ≠ gy → W1.heap[k]? = W.heap[k]?) (hq : Below 0 w W1) : Below w.heap.size w W1 :=
  ⟨hq.os, hq.tape, hq.output, hq.size, fun k hk => by
    by_cases e : k = gy
    · subst e
      exact h4.trans (h0.symm.trans (hb.block k hk))
    · exact (ho k e).trans (hb.block k hk)⟩
theorem load_rowG13 {P : Program} {ops : Array Oper} {rest : List Oper} {o : Oper} {a : Act} {w : World} {Q : Exit → Act → World → Prop} (hw : Region.wanted o (yielded ops a.tmps) = true) (ty : TypeId) (x : Operand) (ho : o.op = .load ty x)
    (g : Nat) (hx : a.eval x = .pointer (some ⟨g, 0, none⟩)) (t : TypeId) (cs : Array Value) (fr : Nat × Nat) (d : TypeDesc) (hg : w.heap[g]? = some (.cells cs t fr))
    (hu : P.underlying ty = some d) (hd : (match d with | .struct _ | .array _ _ => true | _ => false) = true) (hi : (P.info? ty).map (·.size) = some cs.size)
    (h : wpList P ops Q rest (a.put o.dst (.agg cs)) w) : wpList P ops Q (o :: rest) a w :=
  BigFrame.wpList_want hw fun _ hK => wp_load_row ty x ho g hx t cs fr d hg hu hd hi (hK _ _ h)
attribute [local go_sem high] eqA32
theorem info24 : (Tryd.prog.info? 24).map (fun i => (i.zero, i.size, i.bytes)) = some (some (.agg #[.int .i64 0, .int .i64 0, .int .i64 0, .string ByteArray.empty, .int .i64 0, .int .i64 0, .bool false, .int .i64 0, .int .i64 0, .int .i64 0, .slice none 0 0]), 11, 112) := by kernel_rfl
theorem framesB_calls (server : Bool) (A : Option Addr) (c : Nat) (lf : List Fr) (last : Fr) (A2 : Option Addr) (c2 : Nat) (cut : Int) (w : World) (hG : GL w) (hr : Kd.C (kFix w) w A lf.length lf) (hll : lf.length * 112 ≤ 140737488351232) (hgood : ∀ x ∈ lf, GoodF x)
    (hr2 : Kd.C k32 w A2 last.ps.length last.ps) (hc2 : last.ps.length ≤ c2) (hgl : GoodF last) (hcut : -9223372036854775808 ≤ cut ∧ cut ≤ 9223372036854775807) :
    Calls Tryd.prog 13 #[.bool server, .slice A lf.length c, .agg (last.cells A2 c2), .int .i64 cut] w fun e w' => e = .returned (.bool true) ∧ Below w.heap.size w w' := by
  unfold Fr.cells
  have HG := Aside0.mk hG
  have HR := Aside0.mk hr
  have HLL := Aside0.mk hll
  have HGO := Aside0.mk hgood
  have HR2 := Aside0.mk hr2
  have HC2 := Aside0.mk hc2
  have HGL := Aside0.mk hgl
  have HCUT := Aside0.mk hcut
  obtain ⟨pre, hpre⟩ : ∃ p, (if server = true then prefaceB else ByteArray.empty) = p := ⟨_, rfl⟩
  have HPZ : Aside0 (pre.size ≤ 24) := ⟨by rw [← hpre]; cases server <;> decide⟩
  have HPRE := Aside0.mk hpre
  clear hG hr hll hgood hr2 hc2 hgl hcut hpre
  go_enter Tryd.func13, Tryd.ntmps13
  go_upto_region 1 with fail
  obtain ⟨W0, hW⟩ : ∃ W, w.alloc (.cells #[.int .i64 last.ty, .int .i64 last.fl, .int .i64 last.st, .string last.da, .int .i64 last.pad, .int .i64 last.dep, .bool last.ex, .int .i64 last.wt, .int .i64 last.co, .int .i64 last.la, .slice A2 last.ps.length c2] 24) = W := ⟨_, rfl⟩
  obtain ⟨g6, hg⟩ : ∃ g, w.heap.size = g := ⟨_, rfl⟩
  have X0 : Aside0 (At W0 g6 last A2 c2) := ⟨by rw [← hW, ← hg]; exact blk_new _ _⟩
  have LB : Aside0 (Below w.heap.size w W0) := ⟨by rw [← hW]; exact below_alloc (Below.refl _ _) _⟩
  have HG0 := Aside0.mk (HG.out.below LB.out)
  have HR0 := Aside0.mk (Kd.C_below HR.out LB.out)
  have L0 := Aside0.mk (Below.refl W0.heap.size W0)
  rw [hW, hg]
  clear hW hg HG HR
  go_upto_region 3 with (go_at_call 29; refine (head_calls _ (HG0.out.below L0.out)).mono ?_; rintro e w1 ⟨rfl, hb⟩; have L1 := Aside0.mk (below_then L0.out L0.out.size hb); clear hb)
  clear L0
  go_upto_region 4 with (go_at_call 31; refine (new_calls server 65536 _).mono ?_; rintro e w2 ⟨rfl, hf, hb⟩; have F2 := Aside0.mk hf; have L2 := Aside0.mk (below_then L1.out L1.out.size hb); clear hf hb)
  have HGF : Aside0 (W0.heap.size ≤ w1.heap.size) := ⟨L1.out.size⟩
  obtain ⟨g, hg⟩ : ∃ g, w1.heap.size = g := ⟨_, rfl⟩
  rw [hg] at F2 HGF ⊢
  clear hg L1
  go_upto_if 32 with fail
  go_cut [9] from 33 to 34 (fun v wc => v = .pointer (some ⟨g, 0, none⟩) ∧ ∃ fd, Aside0 (FAt wc g fd) ∧ Aside0 (InF fd pre []) ∧ Aside0 (Below W0.heap.size W0 wc))
  case first =>
    cases server
    · go_wp2_with fail
      go_meet
      case rel => exact ⟨rfl, _, F2, ⟨by have h : ByteArray.empty = pre := (by simpa using HPRE.out); rw [← h]; exact in_new false⟩, L2⟩
    · go_wp2_with (go_at_call 32; refine (push_calls g _ prefaceB _ F2.out (by decide)).mono ?_; rintro e w3 ⟨rfl, hf, hb⟩; have F3 := Aside0.mk hf; have L3 := Aside0.mk (hb.below L2.out HGF.out L2.out.size); clear hf hb)
      go_meet
      case rel => exact ⟨rfl, _, F3, ⟨by have h : prefaceB = pre := (by simpa using HPRE.out); rw [← h]; exact in_new true⟩, L3⟩
  case rest =>
    clear F2 L2
    obtain ⟨rfl, fd, F4, I4, L4⟩ := hcut
    go_upto_if 10 with fail
    go_loopw [10, 11] (fun v10 v w' => ∃ (i : Nat) (fd : Fd), v = .int .i64 (i : Int) ∧ Aside0 (i ≤ lf.length) ∧ Aside0 (Kd.R (kFix w) 24 w' W0.heap.size (fun _ => True) v10 (okF (lf.take i))) ∧ Aside0 (FAt w' g fd) ∧ Aside0 (InF fd pre (wrs (okF (lf.take i)))) ∧ Aside0 (Below W0.heap.size W0 w')) (fun _ v _ => ((lf.length : Int) - intOf v).toNat)
    case atStart => exact ⟨0, fd, rfl, ⟨Nat.zero_le _⟩, ⟨Kd.R_nil _ _ _ _ _⟩, F4, I4, L4⟩
    case round =>
      clear F4 I4 L4
      obtain ⟨i, fe, rfl, HI, RR, FF, II, LL⟩ := hrel
      by_cases hil : i < lf.length
      · have d1 : decide ((i : Int) < (lf.length : Int)) = true := decide_eq_true (by omega)
        have d2 : decide (i < lf.length) = true := decide_eq_true hil
        obtain ⟨m, hm⟩ : ∃ m, i + 1 = m := ⟨_, rfl⟩
        have hw1 : wrap64 ((i : Int) + 1) = (m : Int) := by have := HLL.out; unfold wrap64; omega
        have HIM : Aside0 (i < lf.length ∧ i + 1 = m) := ⟨hil, hm⟩
        have p0 : (0 : Int) ≤ (i : Int) := by omega
        have p1 : (i : Int) < (lf.length : Int) := by omega
        obtain ⟨x, hx⟩ : ∃ x, lf[i]? = some x := ⟨_, List.getElem?_eq_getElem hil⟩
        have HX := Aside0.mk hx
        have HXG := Aside0.mk (HGO.out x (List.mem_of_getElem? hx))
        obtain ⟨ad, A', c', rfl, hcl, hC, hcell⟩ := fix_get (Kd.C_below HR0.out LL.out) i x hx
        have HXL := Aside0.mk hcl
        have HXC := Aside0.mk hC
        have HXE := Aside0.mk hcell
        clear hil hm hx hcl hC hcell
        obtain ⟨ec, hec⟩ : ∃ n, (Fr.wr x).1 = n := ⟨_, rfl⟩
        obtain ⟨bb, hbb⟩ : ∃ b, (⟨(Fr.wr x).2.toArray⟩ : ByteArray) = b := ⟨_, rfl⟩
        have HEC := Aside0.mk hec
        have HBB := Aside0.mk hbb
        clear hec hbb
        go_upto_region 13 with (first
          | (refine wpList_load_list rfl 24 _ rfl (ad.add (i * 11)) rfl (x.cells A' c') _ HXE.out Tryd.underlying24 (by rfl) (by kernel_rfl) ?_; unfold Fr.cells)
          | (go_at_call 16; refine (write_calls x A' c' _ (HG0.out.below LL.out) (Kd.C_below (Kd.C_below HXC.out LB.out) LL.out) HXG.out.da HXG.out.ps).mono ?_; rintro e w5 ⟨rfl, hb⟩; rw [HEC.out, HBB.out]; have HX5 : Aside0 (∀ i_1 u, (x.cells A' c').toList[i_1]? = some u → w5.cell? ((ad.add (i * 11)).add i_1) = some u) := ⟨fun k u hu => (hb.cell (World.block_lt_of_cell? _ _ (HXE.out k u hu))).trans (HXE.out k u hu)⟩; have F5 := Aside0.mk (FF.out.low hb); have R5 := Aside0.mk (Kd.R_below RR.out hb); have L5 := Aside0.mk (below_then LL.out LL.out.size hb); clear hb))
        clear RR FF LL HXE
        have HOL : Aside0 ((okF (lf.take i)).length ≤ i) := ⟨by have h := List.length_filter_le (fun f => (Fr.wr f).1 == 0) (lf.take i); rw [List.length_take] at h; show (List.filter (fun f => (Fr.wr f).1 == 0) (lf.take i)).length ≤ i; omega⟩
        by_cases he : ec = 0
        · subst he
          have HST : Aside0 (okF (lf.take m) = okF (lf.take i) ++ [x]) := ⟨by rw [← HIM.out.2, okF_step lf i x HX.out, if_pos HEC.out]⟩
          have HWR := Aside0.mk (wr_two x HEC.out)
          have HSZ : Aside0 (fe.wt.size + bb.size ≤ 9223372036854775807) := ⟨by
            have h1 := II.out.size
            have h2 := wrs_len (lf.take i)
            have h3 := (wr_len HWR.out).2
            have h4 : bb.size = (Fr.wr x).2.length := by rw [← HBB.out, ba_size]
            have h5 := HPZ.out
            have h6 := HLL.out
            have h7 := HIM.out.1
            rw [List.length_take] at h2
            omega⟩
          go_wp2_with (first
            | (refine wpList_load_list rfl 24 _ rfl (ad.add (i * 11)) rfl (x.cells A' c') _ HX5.out Tryd.underlying24 (by rfl) (by kernel_rfl) ?_; unfold Fr.cells)
            | ((with_reducible refine gate_builtin (b := .append) (xs := #[.tmp 51, .tmp 56]) rfl ?_); at_builtin; refine Kd.R_append (kFix w) (w0 := W0) W0.heap.size rfl (.tmp 51) (.tmp 56) 78 24 _ 112 rfl Tryd.underlying78 info24 rfl (Nat.succ_pos 10) (Nat.succ_pos 111) _ (okF (lf.take i)) x [.int .i64 x.ty, .int .i64 x.fl, .int .i64 x.st, .string x.da, .int .i64 x.pad, .int .i64 x.dep, .bool x.ex, .int .i64 x.wt, .int .i64 x.co, .int .i64 x.la, .slice A' x.ps.length c'] (fun _ => True) (fun _ => False) rfl rfl ⟨A', c', rfl, HXL.out, HXC.out⟩ (fun _ h => h.elim) (fun _ _ => trivial) R5.out L5.out L5.out.size ?aL ?_; (case aL => have := HOL.out; have := HLL.out; have := HIM.out.1; omega); intro v9 w9 ho hb hg hat; have F9 : Aside0 (FAt _ g fe) := ⟨blk_grown F5.out hg (Kd.R_ne R5.out F5.out (by decide))⟩; have R9 := Aside0.mk ho; have L9 := Aside0.mk hb; clear ho hb hg hat)
            | (go_at_call 32; refine (push_calls g fe bb _ F9.out HSZ.out).mono ?_; rintro e w10 ⟨rfl, hf, hb⟩; have F10 := Aside0.mk hf; have R10 := Aside0.mk (hb.rowK F9.out R9.out); have L10 := Aside0.mk (hb.below L9.out HGF.out L9.out.size); clear hf hb))
          go_roundw
          case rel => exact ⟨m, _, congrArg (Value.int .i64) hw1, ⟨by have := HIM.out; omega⟩, ⟨by rw [HST.out]; exact R10.out⟩, F10, ⟨by rw [HST.out, wrs_app]; have h := II.out.push bb; rw [← HBB.out] at h ⊢; simpa [wrs] using h⟩, L10⟩
          case measure =>
            rw [hw1]
            show ((lf.length : Int) - (m : Int)).toNat < ((lf.length : Int) - (i : Int)).toNat
            have := HIM.out
            omega
        · have e1 : (ec == 0) = false := by simp [he]
          have e2 : decide (ec = 0) = false := decide_eq_false he
          have HST : Aside0 (okF (lf.take m) = okF (lf.take i)) := ⟨by rw [← HIM.out.2, okF_step lf i x HX.out, if_neg (by rw [HEC.out]; exact he), List.append_nil]⟩
          clear he
          go_wp2_with fail
          go_roundw
          case rel => exact ⟨m, fe, congrArg (Value.int .i64) hw1, ⟨by have := HIM.out; omega⟩, ⟨by rw [HST.out]; exact R5.out⟩, F5, ⟨by rw [HST.out]; exact II.out⟩, L5⟩
          case measure =>
            rw [hw1]
            show ((lf.length : Int) - (m : Int)).toNat < ((lf.length : Int) - (i : Int)).toNat
            have := HIM.out
            omega
      · have d1 : decide ((i : Int) < (lf.length : Int)) = false := decide_eq_false (by omega)
        have d2 : decide (i < lf.length) = false := decide_eq_false hil
        have hie : i = lf.length := by have := HI.out; omega
        subst hie
        rw [List.take_length] at RR II
        obtain ⟨RL, hRL⟩ : ∃ r, okF lf = r := ⟨_, rfl⟩
        rw [hRL] at RR II
        have HRL : Aside0 (∀ x ∈ RL, GoodF x ∧ Fr.wr x = (0, (Fr.wr x).2)) := ⟨by
          intro x hx
          rw [← hRL] at hx
          have h := List.mem_filter.1 hx
          exact ⟨HGO.out x h.1, wr_two x (by simpa using h.2)⟩⟩
        have HRN : Aside0 (RL.length ≤ lf.length) := ⟨by rw [← hRL]; exact List.length_filter_le _ _⟩
        have HRB : Aside0 ((wrs RL).length ≤ 65545 * lf.length) := ⟨by rw [← hRL]; exact wrs_len lf⟩
        obtain ⟨Ar, cr, rfl, hle, hC⟩ := Kd.R_reads RR.out
        have HLE := Aside0.mk hle
        clear hRL hle hC hil HI
        obtain ⟨ec, hec⟩ : ∃ n, (Fr.wr last).1 = n := ⟨_, rfl⟩
        obtain ⟨bb, hbb⟩ : ∃ b, (⟨(Fr.wr last).2.toArray⟩ : ByteArray) = b := ⟨_, rfl⟩
        have HEC := Aside0.mk hec
        have HBB := Aside0.mk hbb
        have HBL : Aside0 ((Fr.wr last).2 = bb.data.toList) := ⟨by rw [← hbb]⟩
        have HXX := Aside0.mk (X0.out.low LL.out)
        clear hec hbb
        go_upto_region 18 with (first
          | (refine wpList_load_row rfl 24 _ rfl g6 rfl 24 (last.cells A2 c2) (0, 0) _ HXX.out Tryd.underlying24 (by rfl) (by kernel_rfl) ?_; unfold Fr.cells)
          | (go_at_call 16; refine (write_calls last A2 c2 _ (HG0.out.below LL.out) (Kd.C_below (Kd.C_below HR2.out LB.out) LL.out) HGL.out.da HGL.out.ps).mono ?_; rintro e w5 ⟨rfl, hb⟩; rw [HEC.out, HBB.out]; have F5 := Aside0.mk (FF.out.low hb); have R5 := Aside0.mk (Kd.R_below RR.out hb); have L5 := Aside0.mk (below_then LL.out LL.out.size hb); clear hb))
        clear FF RR LL HXX
        obtain ⟨y, hy⟩ : ∃ y, decide (ec = 0) = y := ⟨_, rfl⟩
        have HY := Aside0.mk hy
        have HBS : Aside0 (y = true → Fr.wr last = (0, bb.data.toList) ∧ 9 ≤ bb.size ∧ bb.size ≤ 65545) := ⟨by
          intro h
          rw [h] at hy
          have h0 := wr_two last (HEC.out.trans (of_decide_eq_true hy))
          have h1 := wr_len h0
          rw [HBL.out] at h0 h1
          rw [ba_size]
          exact ⟨h0, h1⟩⟩
        clear hy
        go_cut [72] from 66 to 71 (fun v wc => v = .bool y ∧ Aside0 (wc = w5))
        case first =>
          cases y
          · have e0 := of_decide_eq_false HY.out
            have e1 : (ec == 0) = false := by simp [e0]
            have e2 : decide (ec = 0) = false := HY.out
            clear e0
            go_wp2_with fail
            go_meet
            case rel => exact ⟨rfl, ⟨rfl⟩⟩
          · have e0 := of_decide_eq_true HY.out
            subst e0
            have s1 : decide ((0 : Int) < (bb.size : Int)) = true := decide_eq_true (by have := HBS.out rfl; omega)
            have s2 : decide (0 < bb.size) = true := decide_eq_true (by have := HBS.out rfl; omega)
            go_wp2_with fail
            go_meet
            case rel => exact ⟨rfl, ⟨rfl⟩⟩
        case rest =>
          obtain ⟨rfl, HWC⟩ := hcut
          rw [HWC.out]
          clear HWC
          go_upto_if 72 with fail
          go_cut [16] from 17 to 83 (fun v wc => ∃ part, v = .string part ∧ Aside0 (PartP last bb part) ∧ Aside0 (wc = w5))
          case first =>
            cases y
            · go_wp2_with fail
              go_meet
              case rel => exact ⟨_, rfl, ⟨.inl rfl⟩, ⟨rfl⟩⟩
            · obtain ⟨q, hq⟩ : ∃ q, Int.tmod cut (bb.size : Int) = q := ⟨_, rfl⟩
              have HQ : Aside0 (-(bb.size : Int) < q ∧ q < (bb.size : Int)) := ⟨by
                have h9 := HBS.out rfl
                rw [← hq]
                exact ⟨Int.lt_tmod_of_pos cut (by omega), Int.tmod_lt_of_pos cut (by omega)⟩⟩
              have hwx : wrap64 q = q := by have := HQ.out; have := HBS.out rfl; unfold wrap64; omega
              have hwn : wrap64 (-q) = -q := by have := HQ.out; have := HBS.out rfl; unfold wrap64; omega
              have hn0 : ((bb.size : Int) == 0) = false := by rw [beq_eq_false_iff_ne]; have := HBS.out rfl; omega
              have hn1 : (bb.size == 0) = false := by rw [beq_eq_false_iff_ne]; have := HBS.out rfl; omega
              have hn2 : ¬ bb = ByteArray.empty := by intro h; have h2 := (HBS.out rfl).2.1; rw [h] at h2; exact absurd h2 (by decide)
              by_cases hq0 : q < 0
              · obtain ⟨n, hn⟩ : ∃ n : Nat, -q = (n : Int) := ⟨(-q).toNat, by omega⟩
                have d1 : decide (q < 0) = true := decide_eq_true hq0
                have r0 : (0 : Int) ≤ (n : Int) := by omega
                have HNL : Aside0 (n < bb.size) := ⟨by have := HQ.out; omega⟩
                have r1 : (n : Int) ≤ (bb.size : Int) := by have := HNL.out; omega
                have r2 : n ≤ bb.size := by have := HNL.out; omega
                rw [hn] at hwn
                clear hq0
                go_wp2_with fail
                go_meet
                case rel => exact ⟨_, rfl, ⟨part_of (HBS.out (by simp)) HNL.out⟩, ⟨rfl⟩⟩
              · obtain ⟨n, rfl⟩ : ∃ n : Nat, q = (n : Int) := ⟨q.toNat, by omega⟩
                have d1 : decide ((n : Int) < 0) = false := decide_eq_false hq0
                have r0 : (0 : Int) ≤ (n : Int) := by omega
                have HNL : Aside0 (n < bb.size) := ⟨by have := HQ.out; omega⟩
                have r1 : (n : Int) ≤ (bb.size : Int) := by have := HNL.out; omega
                have r2 : n ≤ bb.size := by have := HNL.out; omega
                clear hq0 hwn
                go_wp2_with fail
                go_meet
                case rel => exact ⟨_, rfl, ⟨part_of (HBS.out (by simp)) HNL.out⟩, ⟨rfl⟩⟩
          case rest =>
            obtain ⟨part, rfl, HPT, HWC⟩ := hcut
            rw [HWC.out]
            clear HWC
            have HPS : Aside0 (part.size ≤ 65545) := ⟨by rcases HPT.out with h | ⟨k, _, _, h1, h2, _, h3⟩ <;> omega⟩
            have HSZ : Aside0 (fe.wt.size + part.size ≤ 9223372036854775807) := ⟨by
              have h1 := II.out.size
              have h2 := HRB.out
              have h5 := HPZ.out
              have h6 := HLL.out
              have h7 := HPS.out
              omega⟩
            go_upto_region 24 with (go_at_call 32; refine (push_calls g fe part _ F5.out HSZ.out).mono ?_; rintro e w10 ⟨rfl, hf, hb⟩; have F10 := Aside0.mk hf; have I10 := Aside0.mk (II.out.push part); have R10 := Aside0.mk (hb.rowK F5.out R5.out); have L10 := Aside0.mk (hb.below L5.out HGF.out L5.out.size); clear hf hb)
            clear F5 R5 L5 II
            go_upto_if 25 with fail
            go_loopw [18] (fun v w' => ∃ (i : Nat) (fd : Fd) (p2 : ByteArray), v = .int .i64 (i : Int) ∧ Aside0 (i ≤ RL.length) ∧ Aside0 (Kd.R (kFix w) 24 w' W0.heap.size (fun _ => True) (.slice Ar RL.length cr) RL) ∧ Aside0 (FAt w' g fd) ∧ Aside0 (InF fd p2 (wrs (RL.drop i) ++ part.data.toList)) ∧ Aside0 (p2.size ≤ 24) ∧ Aside0 (Below W0.heap.size W0 w')) (fun v _ => ((RL.length : Int) - intOf v).toNat)
            case atStart => exact ⟨0, _, pre, rfl, ⟨Nat.zero_le _⟩, R10, F10, ⟨by rw [List.drop_zero]; exact I10.out⟩, HPZ, L10⟩
            case round =>
              clear R10 F10 I10 L10
              obtain ⟨i, fe, p2, rfl, HI, RR, FF, II, HP2, LL⟩ := hrel
              by_cases hil : i < RL.length
              · have d1 : decide ((i : Int) < (RL.length : Int)) = true := decide_eq_true (by omega)
                have d2 : decide (i < RL.length) = true := decide_eq_true hil
                obtain ⟨m, hm⟩ : ∃ m, i + 1 = m := ⟨_, rfl⟩
                have hw1 : wrap64 ((i : Int) + 1) = (m : Int) := by have := HLL.out; have := HRN.out; unfold wrap64; omega
                have HIM : Aside0 (i < RL.length ∧ i + 1 = m) := ⟨hil, hm⟩
                have p0 : (0 : Int) ≤ (i : Int) := by omega
                have p1 : (i : Int) < (RL.length : Int) := by omega
                obtain ⟨x, hx⟩ : ∃ x, RL[i]? = some x := ⟨_, List.getElem?_eq_getElem hil⟩
                have HXG := Aside0.mk (HRL.out x (List.mem_of_getElem? hx))
                have hdr : wrs (RL.drop i) ++ part.data.toList = (Fr.wr x).2 ++ (wrs (RL.drop m) ++ part.data.toList) := by
                  rw [List.drop_eq_getElem_cons hil, hm, ← List.append_assoc]
                  obtain ⟨h1, h2⟩ := List.getElem?_eq_some_iff.1 hx
                  rw [h2]
                  rfl
                have HSZ2 : Aside0 (fe.wt.size ≤ 9223372036854775807) := ⟨by
                  have h1 := II.out.size
                  have h2 : (wrs (RL.drop i)).length ≤ (wrs RL).length := by
                    conv => rhs; rw [← List.take_append_drop i RL, wrs_app, List.length_append]
                    omega
                  have h3 := HRB.out
                  have h5 := HP2.out
                  have h6 := HLL.out
                  have h7 := HPS.out
                  rw [List.length_append, ← ba_size] at h1
                  omega⟩
                have HPF : Aside0 (fe.pf.size ≤ 9223372036854775807) := ⟨by rw [II.out.pf]; have := HP2.out; omega⟩
                rw [hdr] at II
                obtain ⟨fn, hfn, hIn⟩ := II.out.told HXG.out.2 HXG.out.1.fl0 HXG.out.1.fl1
                have IN := Aside0.mk hIn
                have HFN := Aside0.mk hfn
                have HX := Aside0.mk hx
                clear hil hm hx hdr hfn hIn
                go_upto_region 28 with (go_at_call 36; refine (next_told g fe fn x _ (HG0.out.below LL.out) FF.out HSZ2.out HPF.out HFN.out).mono ?_; rintro e w6 ⟨A6, c6, rfl, hc6, hf, hb⟩; have K6 := Aside0.mk hc6; have F6 := Aside0.mk hf; have R6 := Aside0.mk (hb.rowK FF.out RR.out); have L6 := Aside0.mk (hb.below LL.out HGF.out LL.out.size); clear hc6 hf hb)
                clear FF RR LL II
                obtain ⟨Wd, hW⟩ : ∃ W, (w6.alloc (.cells #[.int .i64 x.ty, .int .i64 x.fl, .int .i64 x.st, .string x.da, .int .i64 x.pad, .int .i64 x.dep, .bool x.ex, .int .i64 x.wt, .int .i64 x.co, .int .i64 x.la, .slice A6 x.ps.length c6] 24)).alloc (.cells #[.int .i64 0, .int .i64 0] 35) = W := ⟨_, rfl⟩
                obtain ⟨gx, hgx⟩ : ∃ q, w6.heap.size = q := ⟨_, rfl⟩
                obtain ⟨gy, hgy⟩ : ∃ q, gx + 1 = q := ⟨_, rfl⟩
                have X6 : Aside0 (At Wd gx x A6 c6) := ⟨by rw [← hW, ← hgx]; exact heap_alloc2_old _ _ _⟩
                have Y6 : Aside0 (Wd.heap[gy]? = some (.cells #[.int .i64 0, .int .i64 0] 35 (0, 0))) := ⟨by rw [← hW, ← hgy, ← hgx]; exact heap_alloc2_new _ _ _⟩
                have hb : Below w6.heap.size w6 Wd := by rw [← hW]; exact below_alloc (below_alloc (Below.refl _ _) _) _
                have C6 := Aside0.mk (And.intro (Kd.C_below K6.out.1 hb) K6.out.2)
                have F7 := Aside0.mk (F6.out.low hb)
                have R7 := Aside0.mk (Kd.R_below R6.out hb)
                have L7 := Aside0.mk (below_then L6.out L6.out.size hb)
                rw [hW, hgx, hgy]
                clear hW hgx hgy hb K6 F6 R6 L6
                obtain ⟨ad, A', c', hAd, hcl, hC, hcell⟩ := fix_get (Kd.R_reads' R7.out).2.2 i x HX.out
                obtain rfl := hAd
                have HXL := Aside0.mk hcl
                have HXD : Aside0 (Kd.C k32 Wd A' x.ps.length x.ps) := ⟨Kd.C_below (Kd.C_below hC LB.out) L7.out⟩
                have HXE := Aside0.mk hcell
                clear hcl hC hcell
                refine start_ (n := 16) (S := fun w' => w'.cell? ⟨gy, 0, none⟩ = some (.int .i64 0) ∧ w'.cell? ⟨gy, 1, none⟩ = some (.int .i64 0) ∧ w'.heap[gy]? = some (.cells #[.int .i64 0, .int .i64 0] 35 (0, 0)) ∧ At w' gx x A6 c6 ∧ (∀ k u, (x.cells A' c').toList[k]? = some u → w'.cell? ((ad.add (i * 11)).add k) = some u) ∧ Below Wd.heap.size Wd w') (ds := []) #[false, false, false, false, false, false, false, false, false, false, false, false, false, false, false, false] (by kernel_rfl) rfl rfl ⟨blk_cell (blk_below Y6.out (below_drew (Below.refl _ _))) 0, blk_cell (blk_below Y6.out (below_drew (Below.refl _ _))) 1, blk_below Y6.out (below_drew (Below.refl _ _)), X6.out.low (below_drew (Below.refl _ _)), fun k u hu => HXE.out k u hu, below_drew (Below.refl _ _)⟩ (fun hHeld => ?_)
                refine pure_ (i := 0) (N := some 99) (v := ?_) (a' := ?_) #[true, false, false, false, false, false, false, false, false, false, false, false, false, false, false, false] rfl rfl (by kernel_rfl) (fun _ _ _ h => h) (Or.inl ⟨by rfl, ?_⟩) ?_ ?_
                rotate_left
                · intro w'
                  go_simp
                  with_reducible rfl
                rotate_left
                · simp only [Act.put, List.setIfInBounds_toArray, List.set_cons_zero, List.set_cons_succ, i64_w, i32_w]
                  rfl
                refine pure_ (i := 1) (N := some 100) (v := ?_) (a' := ?_) #[true, true, false, false, false, false, false, false, false, false, false, false, false, false, false, false] rfl rfl (by kernel_rfl) (fun _ _ _ h => h) (Or.inl ⟨by rfl, ?_⟩) ?_ ?_
                rotate_left
                · intro w'
                  go_simp
                  with_reducible rfl
                rotate_left
                · simp only [Act.put, List.setIfInBounds_toArray, List.set_cons_zero, List.set_cons_succ, i64_w, i32_w]
                  rfl
                refine pure_ (i := 2) (N := some 101) (v := ?_) (a' := ?_) #[true, true, true, false, false, false, false, false, false, false, false, false, false, false, false, false] rfl rfl (by kernel_rfl) (fun _ _ _ h => h) (Or.inl ⟨by rfl, ?_⟩) ?_ ?_
                rotate_left
                · intro w'
                  go_simp
                  with_reducible rfl
                rotate_left
                · simp only [Act.put, List.setIfInBounds_toArray, List.set_cons_zero, List.set_cons_succ, i64_w, i32_w]
                  rfl
                refine pure_ (i := 4) (N := some 103) (v := ?_) (a' := ?_) #[true, true, true, false, true, false, false, false, false, false, false, false, false, false, false, false] rfl rfl (by kernel_rfl) (fun _ _ _ h => h) (Or.inl ⟨by rfl, ?_⟩) ?_ ?_
                rotate_left
                · intro w'
                  go_simp
                  with_reducible rfl
                rotate_left
                · simp only [Act.put, List.setIfInBounds_toArray, List.set_cons_zero, List.set_cons_succ, i64_w, i32_w]
                  rfl
                refine take_ (i := 3) (N := some 102) (v := ?_) (a' := ?_) #[true, true, true, true, true, false, false, false, false, false, false, false, false, false, false, false] rfl rfl (by kernel_rfl) (fun _ _ _ h => h) (Or.inl ⟨by rfl, ?_⟩) hHeld ?_ ?_
                rotate_left
                · rintro w' ⟨s0, s1, s2, s3, s4, s5⟩
                  go_simp
                  with_reducible rfl
                rotate_left
                · simp only [Act.put, List.setIfInBounds_toArray, List.set_cons_zero, List.set_cons_succ, i64_w, i32_w]
                  rfl
                refine pure_ (i := 5) (N := some 104) (v := ?_) (a' := ?_) #[true, true, true, true, true, true, false, false, false, false, false, false, false, false, false, false] rfl rfl (by kernel_rfl) (fun _ _ _ h => h) (Or.inl ⟨by rfl, ?_⟩) ?_ ?_
                rotate_left
                · intro w'
                  go_simp
                  with_reducible rfl
                rotate_left
                · simp only [Act.put, List.setIfInBounds_toArray, List.set_cons_zero, List.set_cons_succ, i64_w, i32_w]
                  rfl
                refine pure_ (i := 6) (N := some 105) (v := ?_) (a' := ?_) #[true, true, true, true, true, true, true, false, false, false, false, false, false, false, false, false] rfl rfl (by kernel_rfl) (fun _ _ _ h => h) (Or.inl ⟨by rfl, ?_⟩) ?_ ?_
                rotate_left
                · intro w'
                  go_simp
                  with_reducible rfl
                rotate_left
                · simp only [Act.put, List.setIfInBounds_toArray, List.set_cons_zero, List.set_cons_succ, i64_w, i32_w]
                  rfl
                refine pure_ (i := 7) (N := some 106) (v := ?_) (a' := ?_) #[true, true, true, true, true, true, true, true, false, false, false, false, false, false, false, false] rfl rfl (by kernel_rfl) (fun _ _ _ h => h) (Or.inl ⟨by rfl, ?_⟩) ?_ ?_
                rotate_left
                · intro w'
                  go_simp
                  with_reducible rfl
                rotate_left
                · simp only [Act.put, List.setIfInBounds_toArray, List.set_cons_zero, List.set_cons_succ, i64_w, i32_w]
                  rfl
                refine pure_ (i := 9) (N := some 108) (v := ?_) (a' := ?_) #[true, true, true, true, true, true, true, true, false, true, false, false, false, false, false, false] rfl rfl (by kernel_rfl) (fun _ _ _ h => h) (Or.inl ⟨by rfl, ?_⟩) ?_ ?_
                rotate_left
                · intro w'
                  go_simp
                  with_reducible rfl
                rotate_left
                · simp only [Act.put, List.setIfInBounds_toArray, List.set_cons_zero, List.set_cons_succ, i64_w, i32_w]
                  rfl
                refine pure_ (i := 10) (N := some 109) (v := ?_) (a' := ?_) #[true, true, true, true, true, true, true, true, false, true, true, false, false, false, false, false] rfl rfl (by kernel_rfl) (fun _ _ _ h => h) (Or.inl ⟨by rfl, ?_⟩) ?_ ?_
                rotate_left
                · intro w'
                  go_simp
                  with_reducible rfl
                rotate_left
                · simp only [Act.put, List.setIfInBounds_toArray, List.set_cons_zero, List.set_cons_succ, i64_w, i32_w]
                  rfl
                refine pure_ (i := 11) (N := some 110) (v := ?_) (a' := ?_) #[true, true, true, true, true, true, true, true, false, true, true, true, false, false, false, false] rfl rfl (by kernel_rfl) (fun _ _ _ h => h) (Or.inl ⟨by rfl, ?_⟩) ?_ ?_
                rotate_left
                · intro w'
                  go_simp
                  with_reducible rfl
                rotate_left
                · simp only [Act.put, List.setIfInBounds_toArray, List.set_cons_zero, List.set_cons_succ, i64_w, i32_w]
                  rfl
                refine take_ (i := 8) (N := some 107) (v := ?_) (a' := ?_) #[true, true, true, true, true, true, true, true, true, true, true, true, false, false, false, false] rfl rfl (by kernel_rfl) (fun _ _ _ h => h) (Or.inl ⟨by rfl, ?_⟩) hHeld ?_ ?_
                rotate_left
                · rintro w' ⟨s0, s1, s2, s3, s4, s5⟩
                  refine load_row_run13 24 (.tmp 19) ?_ gx ?_ 24 (x.cells A6 c6) (0, 0) _ s3 Tryd.underlying24 ?_ ?_ <;> first | rfl | kernel_rfl
                rotate_left
                · simp only [Act.put, List.setIfInBounds_toArray, List.set_cons_zero, List.set_cons_succ, i64_w, i32_w]
                  rfl
                refine take_ (i := 12) (N := some 111) (v := ?_) (a' := ?_) #[true, true, true, true, true, true, true, true, true, true, true, true, true, false, false, false] rfl rfl (by kernel_rfl) (fun _ _ _ h => h) (Or.inl ⟨by rfl, ?_⟩) hHeld ?_ ?_
                rotate_left
                · rintro w' ⟨s0, s1, s2, s3, s4, s5⟩
                  refine load_list_run 24 (.tmp 110) ?_ (ad.add (i * 11)) ?_ (x.cells A' c') _ s4 Tryd.underlying24 ?_ ?_ <;> first | rfl | kernel_rfl
                rotate_left
                · simp only [Act.put, List.setIfInBounds_toArray, List.set_cons_zero, List.set_cons_succ, i64_w, i32_w]
                  rfl
                refine one_ (i := 13) (N := some 112) #[true, true, true, true, true, true, true, true, true, true, true, true, true, true, false, false] rfl rfl (by kernel_rfl) (by decide) (fun K hK => ?_)
                refine goes_ Tryd.func41 (by kernel_rfl) rfl #[.agg (x.cells A6 c6), .agg (x.cells A' c')] (by rfl) rfl rfl (by simp only [List.map_toArray, List.map_cons, List.map_nil]; rfl) ?_
                with_reducible refine (same7_calls x A6 A' c6 c' _ (by have := HXG.out.1.ps; omega) (Kd.C_below C6.out.1 hHeld.2.2.2.2.2) C6.out.2 (Kd.C_below HXD.out hHeld.2.2.2.2.2) HXL.out).mono ?_
                rintro e w18 ⟨rfl, hb⟩
                refine ⟨_, rfl, ?_⟩
                refine hK.out _ _ ⟨blk_cell (blk_below hHeld.2.2.1 hb) 0, blk_cell (blk_below hHeld.2.2.1 hb) 1, blk_below hHeld.2.2.1 hb, hHeld.2.2.2.1.low hb, fun k u hu => (hb.cell (World.block_lt_of_cell? _ _ (hHeld.2.2.2.2.1 k u hu))).trans (hHeld.2.2.2.2.1 k u hu), below_then hHeld.2.2.2.2.2 hHeld.2.2.2.2.2.size hb⟩ (fun hHeld => ?_)
                clear hK K
                refine norm_ (a' := ?_) ?_ ?_
                rotate_left
                · show Act.put _ (some 112) _ = _
                  simp only [Act.put, List.setIfInBounds_toArray, List.set_cons_zero, List.set_cons_succ, i64_w, i32_w]
                  rfl
                refine pure_ (i := 14) (N := some 113) (v := ?_) (a' := ?_) #[true, true, true, true, true, true, true, true, true, true, true, true, true, true, true, false] rfl rfl (by kernel_rfl) (fun _ _ _ h => h) (Or.inl ⟨by rfl, ?_⟩) ?_ ?_
                rotate_left
                · intro w'
                  go_simp
                  with_reducible rfl
                rotate_left
                · simp only [Act.put, List.setIfInBounds_toArray, List.set_cons_zero, List.set_cons_succ, i64_w, i32_w]
                  rfl
                refine pure_ (i := 15) (N := some 114) (v := ?_) (a' := ?_) #[true, true, true, true, true, true, true, true, true, true, true, true, true, true, true, true] rfl rfl (by kernel_rfl) (fun _ _ _ h => h) (Or.inl ⟨by rfl, ?_⟩) ?_ ?_
                rotate_left
                · intro w'
                  go_simp
                  with_reducible rfl
                rotate_left
                · simp only [Act.put, List.setIfInBounds_toArray, List.set_cons_zero, List.set_cons_succ, i64_w, i32_w]
                  rfl
                refine done_ (by kernel_rfl) ?_
                have hb := hHeld.2.2.2.2.2
                have F8 := Aside0.mk (F7.out.low hb)
                have R8 := Aside0.mk (Kd.R_below R7.out hb)
                have L8 := Aside0.mk (below_then L7.out L7.out.size hb)
                clear hb hHeld X6 Y6 C6 F7 R7 L7 HXE HXD
                go_wp2_with fail
                go_roundw
                case rel => exact ⟨m, fn, ByteArray.empty, congrArg (Value.int .i64) hw1, ⟨by have := HIM.out; omega⟩, R8, F8, IN, ⟨by decide⟩, L8⟩
                case measure =>
                  rw [hw1]
                  show ((RL.length : Int) - (m : Int)).toNat < ((RL.length : Int) - (i : Int)).toNat
                  have := HIM.out
                  omega
              · have d1 : decide ((i : Int) < (RL.length : Int)) = false := decide_eq_false (by omega)
                have d2 : decide (i < RL.length) = false := decide_eq_false hil
                have hie : i = RL.length := by have := HI.out; omega
                subst hie
                rw [List.drop_length] at II
                have I9 : Aside0 (InF fe p2 part.data.toList) := ⟨II.out⟩
                have HSZ3 : Aside0 (fe.wt.size ≤ 9223372036854775807) := ⟨by
                  have h1 := I9.out.size
                  have h5 := HP2.out
                  have h7 := HPS.out
                  rw [← ba_size] at h1
                  omega⟩
                have HPF : Aside0 (fe.pf.size ≤ 9223372036854775807) := ⟨by rw [I9.out.pf]; have := HP2.out; omega⟩
                obtain ⟨fn, hfn, hIn⟩ : ∃ fn, nextF fe = (fn, ⟨Fr.zero, false, 0, 0⟩) ∧ InF fn ByteArray.empty part.data.toList := by
                  rcases HPT.out with h | ⟨k, h0, h1, h2, h3, h4, h5⟩
                  · have e : part.data.toList = [] := List.eq_nil_of_length_eq_zero (by rw [← ba_size]; exact h)
                    have h9 := I9.out
                    rw [e] at h9 ⊢
                    exact h9.none
                  · have e : part.data.toList = bb.data.toList.take k := by rw [h4, ex_list, List.drop_zero, Nat.sub_zero]
                    have h9 := I9.out
                    rw [e] at h9 ⊢
                    exact h9.part h0 HGL.out.fl0 HGL.out.fl1 (by rw [← ba_size]; exact h2)
                have HFN := Aside0.mk hfn
                have IN := Aside0.mk hIn
                obtain ⟨n, hn⟩ : ∃ n, part.size = n := ⟨_, rfl⟩
                have HN := Aside0.mk hn
                have HWN : Aside0 (fn.wt.size = n) := ⟨by have h := hIn.size; rw [← ba_size] at h; rw [h, ← hn]; exact Nat.zero_add _⟩
                have hz1 : ((n : Int) != (part.size : Int)) = false := by rw [hn]; simp
                have hz2 : (n != part.size) = false := by rw [hn]; simp
                clear hil HI hfn hIn hn II I9
                go_upto_region 31 with (go_at_call 36; refine (next_none g fe fn _ (HG0.out.below LL.out) FF.out HSZ3.out HPF.out HFN.out).mono ?_; rintro e w6 ⟨A9, c9, rfl, hf, hb⟩; have F6 := Aside0.mk hf; have L6 := Aside0.mk (hb.below LL.out HGF.out LL.out.size); clear hf hb)
                clear FF RR LL
                obtain ⟨Wd, hW⟩ : ∃ W, (w6.alloc (.cells #[.int .i64 0, .int .i64 0, .int .i64 0, .string ByteArray.empty, .int .i64 0, .int .i64 0, .bool false, .int .i64 0, .int .i64 0, .int .i64 0, .slice A9 0 c9] 24)).alloc (.cells #[.int .i64 0, .int .i64 0] 35) = W := ⟨_, rfl⟩
                obtain ⟨gx, hgx⟩ : ∃ q, w6.heap.size = q := ⟨_, rfl⟩
                obtain ⟨gy, hgy⟩ : ∃ q, gx + 1 = q := ⟨_, rfl⟩
                have Y6 : Aside0 (Wd.heap[gy]? = some (.cells #[.int .i64 0, .int .i64 0] 35 (0, 0))) := ⟨by rw [← hW, ← hgy, ← hgx]; exact heap_alloc2_new _ _ _⟩
                have HYW : Aside0 (W0.heap.size ≤ gy) := ⟨by have := L6.out.size; omega⟩
                have hb : Below w6.heap.size w6 Wd := by rw [← hW]; exact below_alloc (below_alloc (Below.refl _ _) _) _
                have F7 := Aside0.mk (F6.out.low hb)
                have L7 := Aside0.mk (below_then L6.out L6.out.size hb)
                rw [hW, hgx, hgy]
                clear hW hgx hgy hb F6 L6
                have q0 := blk_cell Y6.out 0
                have q1 := blk_cell Y6.out 1
                go_upto_if 133 with (go_at_call 35; refine (waiting_calls g fn _ F7.out).mono ?_; rintro e w8 ⟨rfl, hb⟩; rw [HWN.out]; have F8 := Aside0.mk (F7.out.low hb); have L8 := Aside0.mk (below_then L7.out L7.out.size hb); have Y8 := Aside0.mk (blk_below Y6.out hb); clear hb)
                clear F7 L7 Y6 q0 q1 hz1 hz2
                rcases HPT.out with h | ⟨k, h0, h1, h2, h3, h4, h5⟩
                · obtain rfl : part = ByteArray.empty := by
                    apply ba_ext
                    exact List.eq_nil_of_length_eq_zero (by rw [← ba_size]; exact h)
                  clear h
                  go_wp2_with fail
                  go_ret
                  exact ⟨rfl, below_then LB.out LB.out.size L8.out⟩
                · have hne : part.toList.isEmpty = false := by
                    rw [ByteArray.toList_eq]
                    cases e : part.data.toList with
                    | nil => rw [ba_size, e] at h5; simp only [List.length_nil] at h5; omega
                    | cons a b => rfl
                  have HK := Aside0.mk h0
                  have HK1 : Aside0 (0 < k ∧ k < bb.size ∧ bb.size ≤ 65545 ∧ part = bb.extract 0 k ∧ n = k) := ⟨h1, h2, h3, h4, by rw [← HN.out]; exact h5⟩
                  clear h0 h1 h2 h3 h4 h5
                  have hz3 : (part.size : Int) ≤ (bb.size : Int) := by have := HK1.out; have := HN.out; omega
                  have hz4 : (0 : Int) ≤ (part.size : Int) := by omega
                  have hLL : part.data.toList ++ (bb.extract part.size bb.size).data.toList = bb.data.toList ++ [] := by
                    have h4 := HK1.out.2.2.2.1
                    have h5 : part.size = k := by rw [HN.out]; exact HK1.out.2.2.2.2
                    rw [list_extract, h5, h4, ex_list, List.drop_zero, Nat.sub_zero, List.take_append_drop, List.append_nil]
                  have HSZ4 : Aside0 (fn.wt.size + (bb.extract part.size bb.size).size ≤ 9223372036854775807) := ⟨by
                    have h1 := HWN.out
                    have h2 := HK1.out
                    rw [ByteArray.size_extract]
                    omega⟩
                  obtain ⟨sr, hsr⟩ : ∃ s, bb.extract part.size bb.size = s := ⟨_, rfl⟩
                  have HSR := Aside0.mk hsr
                  rw [hsr] at hLL HSZ4
                  have I12 := IN.out.push sr
                  rw [hLL] at I12
                  obtain ⟨fz, hfz, hIz⟩ := I12.told HK.out HGL.out.fl0 HGL.out.fl1
                  have HFZ := Aside0.mk hfz
                  have HPW : Aside0 ((pushF fn sr).wt.size ≤ 9223372036854775807 ∧ (pushF fn sr).pf.size ≤ 9223372036854775807) := ⟨by rw [I12.size, I12.pf, List.length_append, ← ba_size]; have := HK1.out; have : ByteArray.empty.size = 0 := rfl; simp only [List.length_nil]; omega⟩
                  have HZZ : Aside0 (fz.wt.size = 0) := ⟨by rw [hIz.size]; rfl⟩
                  clear hfz hIz I12 hLL hsr
                  go_upto_region 36 with (go_at_call 32; rw [HSR.out]; refine (push_calls g fn sr _ F8.out HSZ4.out).mono ?_; rintro e w13 ⟨rfl, hf, hb⟩; have F13 := Aside0.mk hf; have Y13 := Aside0.mk (hb.blk Y8.out (blk_ne Y8.out F8.out (by decide))); have L13 := Aside0.mk (hb.below L8.out HGF.out L8.out.size); clear hf hb)
                  clear F8 Y8 L8
                  go_upto_region 37 with (first
                    | (go_at_call 36; refine (next_told g (pushF fn sr) fz last _ (HG0.out.below L13.out) F13.out HPW.out.1 HPW.out.2 HFZ.out).mono ?_; rintro e w14 ⟨A7, c7, rfl, hc7, hf, hb⟩; have C14 := Aside0.mk hc7; have F14 := Aside0.mk hf; have Y14 := Aside0.mk (hb.blk Y13.out (blk_ne Y13.out F13.out (by decide))); have L14 := Aside0.mk (hb.below L13.out HGF.out L13.out.size); clear hc7 hf hb)
                    | (refine wpList_store_row rfl 35 _ _ rfl gy #[.int .i64 0, .int .i64 0] rfl rfl 35 _ (blk_alloc Y14.out _) (by kernel_rfl) (by kernel_rfl) (by kernel_rfl) ?_; obtain ⟨W15, ew, q4, qo, qb⟩ := row_store _ gy #[.int .i64 0, .int .i64 0] 35 _ (blk_alloc Y14.out (.cells #[.int .i64 last.ty, .int .i64 last.fl, .int .i64 last.st, .string last.da, .int .i64 last.pad, .int .i64 last.dep, .bool last.ex, .int .i64 last.wt, .int .i64 last.co, .int .i64 last.la, .slice A7 last.ps.length c7] 24)); rw [ew]; have hbW := below_same (below_alloc (Below.refl w14.heap.size w14) (.cells #[.int .i64 last.ty, .int .i64 last.fl, .int .i64 last.st, .string last.da, .int .i64 last.pad, .int .i64 last.dep, .bool last.ex, .int .i64 last.wt, .int .i64 last.co, .int .i64 last.la, .slice A7 last.ps.length c7] 24)) (blk_alloc Y14.out _) q4 qo (qb 0 w14 (Below.alloc (Below.refl 0 w14) (Nat.zero_le _) _) (Nat.zero_le _)); have X15 : Aside0 (At W15 w14.heap.size last A7 c7) := ⟨(qo _ (blk_ne (blk_new w14 (.cells #[.int .i64 last.ty, .int .i64 last.fl, .int .i64 last.st, .string last.da, .int .i64 last.pad, .int .i64 last.dep, .bool last.ex, .int .i64 last.wt, .int .i64 last.co, .int .i64 last.la, .slice A7 last.ps.length c7] 24)) (blk_alloc Y14.out _) (by decide))).trans (blk_new w14 (.cells #[.int .i64 last.ty, .int .i64 last.fl, .int .i64 last.st, .string last.da, .int .i64 last.pad, .int .i64 last.dep, .bool last.ex, .int .i64 last.wt, .int .i64 last.co, .int .i64 last.la, .slice A7 last.ps.length c7] 24))⟩; have HB15 := Aside0.mk hbW; have L15 := Aside0.mk (below_then L14.out L14.out.size hbW); have Y15 := Aside0.mk q4; have F15 := Aside0.mk (F14.out.low hbW); have C15 := Aside0.mk (And.intro (Kd.C_below C14.out.1 hbW) C14.out.2); clear q4 qo qb ew hbW))
                  clear F13 Y13 L13 C14 F14 Y14 L14
                  obtain ⟨gz, hgz⟩ : ∃ q, w14.heap.size = q := ⟨_, rfl⟩
                  rw [hgz] at X15 ⊢
                  clear hgz HB15
                  have X6 := Aside0.mk (X0.out.low L15.out)
                  have D6 := Aside0.mk (Kd.C_below (Kd.C_below HR2.out LB.out) L15.out)
                  have q0 := blk_cell Y15.out 0
                  have q1 := blk_cell Y15.out 1
                  go_wp2_with (first
                    | (refine load_rowG13 (by rfl) 24 _ rfl gz rfl 24 (last.cells A7 c7) (0, 0) _ X15.out Tryd.underlying24 (by rfl) (by kernel_rfl) ?_)
                    | (refine load_rowG13 (by rfl) 24 _ rfl g6 rfl 24 (last.cells A2 c2) (0, 0) _ X6.out Tryd.underlying24 (by rfl) (by kernel_rfl) ?_)
                    | (go_at_call 41; refine (same7_calls last A7 A2 c7 c2 _ (by have := HGL.out.ps; omega) C15.out.1 C15.out.2 D6.out HC2.out).mono ?_; rintro e w16 ⟨rfl, hb⟩; have F16 := Aside0.mk (F15.out.low hb); have L16 := Aside0.mk (below_then L15.out L15.out.size hb); clear hb)
                    | (go_at_call 35; refine (waiting_calls g fz _ F16.out).mono ?_; rintro e w17 ⟨rfl, hb⟩; rw [HZZ.out]; have L17 := Aside0.mk (below_then L16.out L16.out.size hb); clear hb))
                  go_ret
                  exact ⟨rfl, below_then LB.out LB.out.size L17.out⟩
end Go.Proofs.YtoffhlbdfhhhjaaDoor.Fr
