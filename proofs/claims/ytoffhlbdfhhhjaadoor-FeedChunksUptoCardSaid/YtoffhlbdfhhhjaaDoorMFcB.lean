/- A feed drained: what drained and sameTold do. The package's variable holds what the program lays. -/
import Derived.Test.YtoffhlbdfhhhjaaDoorMFcA
import Derived.Test.YtoffhlbdfhhhjaaDoorMFdV
import Derived.Test.YtoffhlbdfhhhjaaDoorMFrK
namespace Go.Proofs.YtoffhlbdfhhhjaaDoor.Fr
open Go Go.RowKit Go.Proofs.YtoffhlbdfhhhjaaDoorW.PrintWords Go.Proofs.YtoffhlbdfhhhjaaDoorW.PrintLast Go.Proofs.YtoffhlbdfhhhjaaDoorW.PrintMore Go.Proofs.YtoffhlbdfhhhjaaDoor.QL
set_option linter.unusedSimpArgs false
set_option linter.unusedVariables false
set_option maxHeartbeats 4000000
set_option maxRecDepth 100000
theorem rdF_st (b : ByteArray) (m : Int) (h : (rdF b m).st ≠ 0) : 0 < (rdF b m).no := by
  have hz : ∀ c, (Rd.bad c).st = 0 := fun c => rfl
  unfold rdF at h ⊢
  by_cases h1 : b.size < 9
  · rw [if_pos h1] at h
    exact absurd (hz 0) h
  rw [if_neg h1] at h ⊢
  by_cases h2 : min (max m 16384) 65536 < rdN b
  · rw [if_pos h2] at h
    exact absurd (hz 6) h
  rw [if_neg h2] at h ⊢
  by_cases h3 : (b.size : Int) - 9 < rdN b
  · rw [if_pos h3] at h
    exact absurd (hz 0) h
  rw [if_neg h3] at h ⊢
  have hn0 : 0 ≤ rdN b := (num_bd _).1
  unfold rdRest at h ⊢
  split at h
  · exact absurd (hz 1) h
  · rename_i q1
    rw [if_neg q1]
    split at h
    · exact absurd (hz 6) h
    · rename_i q2
      rw [if_neg q2]
      split at h
      · exact absurd (hz 1) h
      · rename_i q3
        rw [if_neg q3]
        split at h
        · rename_i q4
          split at h
          · rename_i q5
            rw [if_pos q5]
            show (0 : Int) < 9 + rdN b
            omega
          · exact absurd (hz 6) h
        · exact absurd rfl h
/-- A feed that is broken, is by a fault of the connection. -/
def OkF (f : Fd) : Prop := f.code = 0 ∨ f.st = 0
theorem OkF.push {f : Fd} (h : OkF f) (s : ByteArray) : OkF (pushF f s) := by
  unfold pushF
  split
  · exact h
  · exact h
theorem tail_sizes (g : Fd) (hg : OkF g) : (tailF g).1.wt.size ≤ g.wt.size ∧ (tailF g).1.pf = g.pf ∧ OkF (tailF g).1 ∧ (¬ quietN (tailF g).2 → (tailF g).1.wt.size < g.wt.size) := by
  have hno := rdF_no g.wt g.most
  have hst := rdF_st g.wt g.most
  obtain ⟨R, hR⟩ : ∃ R, rdF g.wt g.most = R := ⟨_, rfl⟩
  have hx : (g.wt.extract R.no.toNat g.wt.size).size ≤ g.wt.size ∧ (0 < R.no → R.no ≤ g.wt.size → (g.wt.extract R.no.toNat g.wt.size).size < g.wt.size) := by
    rw [ByteArray.size_extract]
    omega
  unfold tailF
  rw [hR] at hno hst ⊢
  by_cases c1 : R.code ≠ 0 ∧ R.st = 0
  · rw [if_pos c1]
    exact ⟨Nat.zero_le _, rfl, .inr rfl, fun h => absurd ⟨rfl, .inr rfl⟩ h⟩
  · rw [if_neg c1]
    by_cases c2 : R.code ≠ 0
    · rw [if_pos c2]
      exact ⟨hx.1, rfl, hg, fun _ => hx.2 (hst (fun e => c1 ⟨c2, e⟩)) hno.2⟩
    · rw [if_neg c2]
      refine ⟨hx.1, rfl, hg, fun h => hx.2 ?_ hno.2⟩
      by_cases h0 : 0 < R.no
      · exact h0
      · exact absurd ⟨decide_eq_false h0, .inl rfl⟩ h
theorem next_sizes (f : Fd) (hf : OkF f) : (nextF f).1.wt.size ≤ f.wt.size ∧ (nextF f).1.pf.size ≤ f.pf.size ∧ OkF (nextF f).1 ∧ (¬ quietN (nextF f).2 → (nextF f).1.wt.size < f.wt.size) := by
  cases hb : brB f
  · cases hg : (begunF f).1
    · rw [next_no hb hg]
      rcases (begun_push f ByteArray.empty hb).2 hg with h2 | ⟨h2, _⟩
      · rw [h2]
        unfold doneF
        rw [if_neg (by rw [hb]; decide)]
        exact ⟨Nat.le_refl _, Nat.le_refl _, hf, fun h => absurd ⟨rfl, .inl rfl⟩ h⟩
      · rw [h2]
        have hbr : brB { f with code := 1, st := 0 } = true := rfl
        unfold doneF
        rw [if_pos hbr]
        exact ⟨Nat.zero_le _, Nat.le_refl _, .inr rfl, fun h => absurd ⟨rfl, .inr rfl⟩ h⟩
    · rw [next_tail hb hg]
      obtain ⟨g1, g2, g3, g4, g5, g6⟩ := begun_br f hb hg
      obtain ⟨t1, t2, t3, t4⟩ := tail_sizes (begunF f).2 (by unfold OkF; rw [g5, g6]; exact hf)
      exact ⟨Nat.le_trans t1 g4, by rw [t2, g2]; exact Nat.zero_le _, t3, fun h => Nat.lt_of_lt_of_le (t4 h) g4⟩
  · rw [next_br hb]
    exact ⟨Nat.zero_le _, Nat.le_refl _, hf, fun h => absurd ⟨rfl, hf⟩ h⟩
theorem drains_ex : ∀ (n : Nat) (f : Fd), f.wt.size ≤ n → OkF f → ∃ L f2 c s, Drains f L f2 c s
  | n, f, hn, hf => by
    obtain ⟨h1, h2, h3, h4⟩ := next_sizes f hf
    by_cases q : quietN (nextF f).2
    · exact ⟨_, _, _, _, .stop q⟩
    · have hlt := h4 q
      match n, hn with
      | 0, hn => omega
      | n + 1, hn =>
        obtain ⟨L, f2, c, s, d⟩ := drains_ex n (nextF f).1 (by omega) h3
        exact ⟨_, _, _, _, .step q d⟩
theorem Drains.sizes {f f2 : Fd} {L : List Td} {c s : Int} (h : Drains f L f2 c s) (hf : OkF f) : OkF f2 ∧ L.length + f2.wt.size ≤ f.wt.size ∧ f2.pf.size ≤ f.pf.size := by
  induction h with
  | @stop f q =>
    obtain ⟨h1, h2, h3, h4⟩ := next_sizes f hf
    exact ⟨h3, by simpa using h1, h2⟩
  | @step f L f2 c s q d ih =>
    obtain ⟨h1, h2, h3, h4⟩ := next_sizes f hf
    obtain ⟨i1, i2, i3⟩ := ih h3
    have hlt := h4 q
    exact ⟨i1, by rw [List.length_cons]; omega, Nat.le_trans i3 h2⟩
/-- How much waits, out of the memory. -/
def wtW (g : Nat) (w : World) : Nat := match w.cell? ⟨g, 1, none⟩ with
  | some (.string s) => s.size
  | _ => 0
theorem wtW_of {w : World} {g : Nat} {f : Fd} (h : FAt w g f) : wtW g w = f.wt.size := by
  unfold wtW
  rw [h.c1]
/-- What is told as a kind of values: 13 cells. -/
def frS (f : Fr) : S24 := ⟨f.ty, f.fl, f.st, f.da, f.pad, f.dep, f.ex, f.wt, f.co, f.la, f.ps⟩
def kTd : Kd Td := Kd.iso (Kd.pair k24 (Kd.pair (Kd.int .i64) (Kd.int .i64))) (fun x : Td => (frS x.fr, x.code, x.st))
def Td.cells (x : Td) (A : Option Addr) (c : Nat) : List Value := [.int .i64 x.fr.ty, .int .i64 x.fr.fl, .int .i64 x.fr.st, .string x.fr.da, .int .i64 x.fr.pad, .int .i64 x.fr.dep, .bool x.fr.ex, .int .i64 x.fr.wt, .int .i64 x.fr.co, .int .i64 x.fr.la, .slice A x.fr.ps.length c, .int .i64 x.code, .int .i64 x.st]
theorem kTd_sz : kTd.sz = 13 := rfl
theorem kTd_E : ∀ q, q ∈ 110 :: kTd.E → q = 110 ∨ q = 32 := by
  intro q hq
  simpa [kTd, k24, k32, Kd.iso, Kd.pair, Kd.int, Kd.string, Kd.bool, Kd.scalar, Kd.slice] using hq
theorem kTd_mk {W : World} {base : Nat} {ok : Nat → Prop} {x : Td} {A : Option Addr} {c : Nat} (h : Kd.R k32 32 W base ok (.slice A x.fr.ps.length c) x.fr.ps) : kTd.M W base ok x (x.cells A c) :=
  ⟨[.int .i64 x.fr.ty, .int .i64 x.fr.fl, .int .i64 x.fr.st, .string x.fr.da, .int .i64 x.fr.pad, .int .i64 x.fr.dep, .bool x.fr.ex, .int .i64 x.fr.wt, .int .i64 x.fr.co, .int .i64 x.fr.la, .slice A x.fr.ps.length c], [.int .i64 x.code, .int .i64 x.st], rfl,
    ⟨[_], _, rfl, rfl, [_], _, rfl, rfl, [_], _, rfl, rfl, [_], _, rfl, rfl, [_], _, rfl, rfl, [_], _, rfl, rfl, [_], _, rfl, rfl, [_], _, rfl, rfl, [_], _, rfl, rfl, [_], _, rfl, rfl, _, rfl, h⟩,
    ⟨[_], [_], rfl, rfl, rfl⟩⟩
theorem kTd_open {w : World} {x : Td} {cs : List Value} (h : kTd.K w x cs) : ∃ A c, cs = x.cells A c ∧ x.fr.ps.length ≤ c ∧ k32.C w A x.fr.ps.length x.fr.ps := by
  obtain ⟨c0, c1, rfl, h0, c2, c3, rfl, h2, h3⟩ := h
  obtain ⟨A, c, rfl, h4, h5⟩ := k24_open h0
  have h2 : c2 = [.int .i64 x.code] := h2
  have h3 : c3 = [.int .i64 x.st] := h3
  subst h2; subst h3
  exact ⟨A, c, rfl, h4, h5⟩
theorem Chg.rowT {g base : Nat} {w w' : World} {f : Fd} {ok : Nat → Prop} {v : Value} {xs : List Td} (h : Chg g w w') (hf : FAt w g f) (hr : Kd.R kTd 110 w base ok v xs) : Kd.R kTd 110 w' base ok v xs :=
  Kd.R_mono (Kd.R_step (Kd.R_types hr hf (by intro q hq; rcases kTd_E q hq with rfl | rfl <;> decide)) (fun k hk hlt => h.block k hlt hk.2)) (fun _ hk => hk.1)
/-- What drained leaves of an elder world: all but the feed and the row. -/
structure Dr (g : Nat) (v : Value) (w w' : World) : Prop where
  os : w'.os = w.os
  tape : w'.tape = w.tape
  output : w'.output = w.output
  size : w.heap.size ≤ w'.heap.size
  block : ∀ k : Nat, k < w.heap.size → k ≠ g → some k ≠ v.ownBlock → w'.heap[k]? = w.heap[k]?
theorem most_calls (n : Int) (w : World) (h0 : -9223372036854775808 ≤ n) (h1 : n ≤ 9223372036854775807) : Calls Tryd.prog 30 #[.int .i64 n] w fun e w' => ∃ m, e = .returned (.int .i64 m) ∧ Below w.heap.size w w' := by
  have HB := Aside0.mk (Below.refl w.heap.size w)
  go_enter Tryd.func30, Tryd.ntmps30
  by_cases hn : n < 0
  · have d1 : decide (n < 0) = true := decide_eq_true hn
    go_wp2_with fail
    go_ret
    first
      | exact ⟨⟨_, rfl⟩, HB.out⟩
      | exact ⟨_, rfl, HB.out⟩
      | exact ⟨rfl, HB.out⟩
      | exact HB.out
  · have d1 : decide (n < 0) = false := decide_eq_false hn
    go_wp2_with fail
    go_ret
    first
      | exact ⟨⟨_, rfl⟩, HB.out⟩
      | exact ⟨_, rfl, HB.out⟩
      | exact ⟨rfl, HB.out⟩
      | exact HB.out
theorem info110 : (Tryd.prog.info? 110).map (fun i => (i.zero, i.size, i.bytes)) = some (some (.agg #[.int .i64 0, .int .i64 0, .int .i64 0, .string ByteArray.empty, .int .i64 0, .int .i64 0, .bool false, .int .i64 0, .int .i64 0, .int .i64 0, .slice none 0 0, .int .i64 0, .int .i64 0]), 13, 128) := by kernel_rfl
theorem next_is (g : Nat) (f f' : Fd) (r : Nx) (W : World) (hG : GL W) (h : FAt W g f) (hs : f.wt.size ≤ 9223372036854775807) (hp : f.pf.size ≤ 9223372036854775807) (hn : nextF f = (f', r)) :
    Calls Tryd.prog 36 #[.pointer (some ⟨g, 0, none⟩)] W fun e w' => ∃ A c, e = .returned (.tuple #[.agg (r.fr.cells A c), .bool r.ok, .agg #[.int .i64 r.code, .int .i64 r.st]]) ∧ Kd.R k32 32 w' W.heap.size (fun _ => True) (.slice A r.fr.ps.length c) r.fr.ps ∧ FAt w' g f' ∧ Chg g W w' := by
  refine (next_calls g f W hG h hs hp).mono ?_
  rintro e w' hx
  rw [hn] at hx
  exact hx
theorem Dr.of {g : Nat} {v : Value} {w W : World} (h : Below w.heap.size w W) : Dr g v w W := ⟨h.os, h.tape, h.output, h.size, fun k hk _ _ => h.block k hk⟩
theorem Dr.below {g : Nat} {v : Value} {w W W1 : World} (h : Dr g v w W) (hb : Below W.heap.size W W1) : Dr g v w W1 := ⟨hb.os.trans h.os, hb.tape.trans h.tape, hb.output.trans h.output, Nat.le_trans h.size hb.size, fun k hk h1 h2 => (hb.block k (Nat.lt_of_lt_of_le hk h.size)).trans (h.block k hk h1 h2)⟩
theorem Dr.chg {g : Nat} {v : Value} {w W W1 : World} (h : Dr g v w W) (hb : Chg g W W1) : Dr g v w W1 := ⟨hb.os.trans h.os, hb.tape.trans h.tape, hb.output.trans h.output, Nat.le_trans h.size hb.size, fun k hk h1 h2 => (hb.block k (Nat.lt_of_lt_of_le hk h.size) h1).trans (h.block k hk h1 h2)⟩
theorem Dr.grown {g : Nat} {v v1 : Value} {w W W1 : World} (h : Dr g v w W) (hg : W.grownBy W1 v1.ownBlock) (hat : v1.ownBlock = v.ownBlock ∨ ∃ b, v1.ownBlock = some b ∧ w.heap.size ≤ b) : Dr g v w W1 := ⟨hg.os.trans h.os, hg.tape.trans h.tape, hg.output.trans h.output, Nat.le_trans h.size hg.size, fun k hk h1 h2 => (hg.block k (Nat.lt_of_lt_of_le hk h.size) (by
    rcases hat with e | ⟨b, e, hb⟩
    · rw [e]; exact h2
    · rw [e]; intro e2; injection e2 with e2; omega)).trans (h.block k hk h1 h2)⟩
theorem Dr.row {g g5 : Nat} {v : Value} {w W W1 : World} (h : Dr g v w W) (hg : w.heap.size ≤ g5) (ho : ∀ k : Nat, k ≠ g5 → W1.heap[k]? = W.heap[k]?) (hq : Below 0 W W1) : Dr g v w W1 := ⟨hq.os.trans h.os, hq.tape.trans h.tape, hq.output.trans h.output, Nat.le_trans h.size hq.size, fun k hk h1 h2 => (ho k (by omega)).trans (h.block k hk h1 h2)⟩
theorem GL.grownU {w w1 : World} {row : Option Nat} (h : GL w) (hg : w.grownBy w1 row) (hr : some 0 ≠ row) : GL w1 := fun i n hi => (cell_same (hg.block 0 h.lt hr) i).trans (h i n hi)
theorem Drains.inv {f f' f2 : Fd} {r : Nx} {L : List Td} {c s : Int} (h : Drains f L f2 c s) (hn : nextF f = (f', r)) : (quietN r ∧ L = [] ∧ f2 = f' ∧ c = r.code ∧ s = r.st) ∨ (¬ quietN r ∧ ∃ L', L = ⟨r.fr, r.code, r.st⟩ :: L' ∧ Drains f' L' f2 c s) := by
  cases h with
  | stop q => rw [hn] at q ⊢; exact .inl ⟨q, rfl, rfl, rfl, rfl⟩
  | step q d => rw [hn] at q d ⊢; exact .inr ⟨q, _, rfl, d⟩
theorem res33 (tmps : Array Value) (W : World) (g5 : Nat) (v1 : Value) (code st : Int) (h4 : tmps.getD 4 undef = v1) (h5 : tmps.getD 5 undef = .pointer (some ⟨g5, 0, none⟩)) (he : W.heap[g5]? = some (.cells #[.int .i64 code, .int .i64 st] 35 (0, 0))) :
    (results Tryd.f33 tmps).run Tryd.prog W = .ok (.tuple #[v1, .agg #[.int .i64 code, .int .i64 st]]) W := by
  have r2 := run_loadVar_row (P := Tryd.prog) W g5 35 35 #[.int .i64 code, .int .i64 st] (0, 0) _ he Tryd.underlying35 (by rfl) (by kernel_rfl)
  have e : Tryd.f33.results = #[.tmp 4, .cell 5 35] := rfl
  simp only [Array.getD_eq_getD_getElem?] at h4 h5
  simp [results, e, h4, h5, asAddr, Sem.run_bind, r2]
attribute [local go_sem high] eqA32
theorem drained_calls (base : Nat) (w0 : World) (g : Nat) (f f2 : Fd) (L : List Td) (c s : Int) (v : Value) (L0 : List Td) (w : World) (hG : GL w) (hD : Drains f L f2 c s) (hF : FAt w g f) (hok : OkF f) (hsz : f.wt.size ≤ 1048576) (hpf : f.pf.size ≤ 24) (hR : Kd.R kTd 110 w base (fun _ => True) v L0) (hB : Below base w0 w) (hbase : base ≤ w.heap.size) (hg : base ≤ g) (hl : L0.length + L.length ≤ 1048576) (h0 : 0 < base) :
    Calls Tryd.prog 33 #[.pointer (some ⟨g, 0, none⟩), v] w fun e w' => ∃ v', e = .returned (.tuple #[v', .agg #[.int .i64 c, .int .i64 s]]) ∧ Kd.R kTd 110 w' base (fun _ => True) v' (L0 ++ L) ∧ FAt w' g f2 ∧ Below base w0 w' ∧ Dr g v w w' ∧ (v'.ownBlock = v.ownBlock ∨ ∃ b, v'.ownBlock = some b ∧ w.heap.size ≤ b) := by
  have HG := Aside0.mk hG
  have HD := Aside0.mk hD
  have HF := Aside0.mk hF
  have HOK := Aside0.mk hok
  have HSZ := Aside0.mk hsz
  have HPF := Aside0.mk hpf
  have HR := Aside0.mk hR
  have HB := Aside0.mk hB
  have HBA := Aside0.mk hbase
  have HGB := Aside0.mk hg
  have HL := Aside0.mk hl
  have H0 := Aside0.mk h0
  clear hG hD hF hok hsz hpf hR hB hbase hg hl h0
  go_enter Tryd.func33, Tryd.ntmps33
  go_upto_if 1 with fail
  obtain ⟨W1, hW⟩ : ∃ W, w.alloc (.cells #[.int .i64 0, .int .i64 0] 35) = W := ⟨_, rfl⟩
  obtain ⟨g5, hg5⟩ : ∃ q, w.heap.size = q := ⟨_, rfl⟩
  have hb : Below w.heap.size w W1 := by rw [← hW]; exact below_alloc (Below.refl _ _) _
  have G1 : Aside0 (W1.heap[g5]? = some (.cells #[.int .i64 0, .int .i64 0] 35 (0, 0))) := ⟨by rw [← hW, ← hg5]; exact blk_new _ _⟩
  have F1 := Aside0.mk (HF.out.low hb)
  have R1 := Aside0.mk (Kd.R_below HR.out hb)
  have L1_ := Aside0.mk (below_then HB.out HBA.out hb)
  have D1 : Aside0 (Dr g v w W1) := ⟨Dr.of hb⟩
  have HG5 : Aside0 (w.heap.size ≤ g5 ∧ base ≤ g5 ∧ g ≠ g5) := ⟨by have := HBA.out; have := blk_lt HF.out; omega⟩
  have HG0 : Aside0 (g ≠ 0) := ⟨fat_ne HG.out HF.out⟩
  have HGW := Aside0.mk (HG.out.below hb)
  rw [hW, hg5]
  clear hW hg5 hb
  go_loopw [1] (fun v1 w' => ∃ (f1 : Fd) (La Lr : List Td), Aside0 (Drains f1 Lr f2 c s) ∧ Aside0 (La ++ Lr = L0 ++ L) ∧ Aside0 (OkF f1) ∧ Aside0 (f1.wt.size ≤ 1048576 ∧ f1.pf.size ≤ 24) ∧ Aside0 (GL w') ∧ Aside0 (FAt w' g f1) ∧ Aside0 (Kd.R kTd 110 w' base (fun _ => True) v1 La) ∧ Aside0 (w'.heap[g5]? = some (.cells #[.int .i64 0, .int .i64 0] 35 (0, 0))) ∧ Aside0 (Below base w0 w') ∧ Aside0 (base ≤ w'.heap.size) ∧ Aside0 (Dr g v w w') ∧ Aside0 (v1.ownBlock = v.ownBlock ∨ ∃ b, v1.ownBlock = some b ∧ w.heap.size ≤ b)) (fun _ w' => wtW g w')
  case atStart => exact ⟨f, L0, L, HD, ⟨rfl⟩, HOK, ⟨HSZ.out, HPF.out⟩, HGW, F1, R1, G1, L1_, ⟨Nat.le_trans HBA.out D1.out.size⟩, D1, ⟨.inl rfl⟩⟩
  case round =>
    clear F1 R1 G1 L1_ D1 HGW
    obtain ⟨f1, La, Lr, HD1, HLL, HO1, HS1, HGW, F1, R1, G1, L1_, HBW, D1, HV1⟩ := hrel
    obtain ⟨fn, r, hfn⟩ : ∃ fn r, nextF f1 = (fn, r) := ⟨_, _, rfl⟩
    have HFN := Aside0.mk hfn
    have hsz := next_sizes f1 HO1.out
    rw [hfn] at hsz
    have HOn := Aside0.mk hsz.2.2.1
    have HSn : Aside0 (fn.wt.size ≤ 1048576 ∧ fn.pf.size ≤ 24) := ⟨⟨Nat.le_trans hsz.1 HS1.out.1, Nat.le_trans hsz.2.1 HS1.out.2⟩⟩
    have hlt : ¬ quietN r → fn.wt.size < f1.wt.size := hsz.2.2.2
    have hinv := HD1.out.inv hfn
    obtain ⟨x, ok, code, st⟩ := r
    have HLN : Aside0 (La.length + Lr.length ≤ 1048576) := ⟨by have h := congrArg List.length HLL.out; rw [List.length_append, List.length_append] at h; have := HL.out; omega⟩
    have HVL : Aside0 (∀ k, u1.ownBlock = some k → k < wr.heap.size) := ⟨Kd.R_lt R1.out⟩
    have HINV := Aside0.mk hinv
    have HLTT := Aside0.mk hlt
    clear hfn hsz hinv hlt
    go_upto_region 2 with (go_at_call 36; refine (next_is g f1 fn ⟨x, ok, code, st⟩ _ HGW.out F1.out (by have := HS1.out.1; omega) (by have := HS1.out.2; omega) HFN.out).mono ?_; rintro e w6 ⟨A6, c6, rfl, hr6, hf, hb⟩; have K6 := Aside0.mk hr6; have F6 := Aside0.mk hf; have R6 := Aside0.mk (hb.rowT F1.out R1.out); have G6 := Aside0.mk (hb.blk G1.out HG5.out.2.2.symm); have L6 := Aside0.mk (hb.below L1_.out HGB.out HBW.out); have B6 := Aside0.mk (Nat.le_trans HBW.out hb.size); have D6 := Aside0.mk (D1.out.chg hb); have GW6 := Aside0.mk (HGW.out.chg HG0.out hb); clear hr6 hf hb; unfold Fr.cells)
    have HBW0 := HBW
    clear R1 G1 L1_ HBW D1 HGW
    obtain ⟨Wd, hW⟩ : ∃ W, (w6.alloc (.cells #[.int .i64 x.ty, .int .i64 x.fl, .int .i64 x.st, .string x.da, .int .i64 x.pad, .int .i64 x.dep, .bool x.ex, .int .i64 x.wt, .int .i64 x.co, .int .i64 x.la, .slice A6 x.ps.length c6] 24)).alloc (.cells #[.int .i64 code, .int .i64 st] 35) = W := ⟨_, rfl⟩
    obtain ⟨gx, hgx⟩ : ∃ q, w6.heap.size = q := ⟨_, rfl⟩
    obtain ⟨gy, hgy⟩ : ∃ q, gx + 1 = q := ⟨_, rfl⟩
    have X6 : Aside0 (At Wd gx x A6 c6) := ⟨by rw [← hW, ← hgx]; exact heap_alloc2_old _ _ _⟩
    have Y6 : Aside0 (Wd.heap[gy]? = some (.cells #[.int .i64 code, .int .i64 st] 35 (0, 0))) := ⟨by rw [← hW, ← hgy, ← hgx]; exact heap_alloc2_new _ _ _⟩
    have hb : Below w6.heap.size w6 Wd := by rw [← hW]; exact below_alloc (below_alloc (Below.refl _ _) _) _
    have K7 : Aside0 (Kd.R k32 32 Wd base (fun k => wr.heap.size ≤ k) (.slice A6 x.ps.length c6) x.ps) := ⟨Kd.R_lower (Kd.R_mono (Kd.R_bound (Kd.R_below K6.out hb)) (fun k hk => hk.2.1)) HBW0.out⟩
    have F7 := Aside0.mk (F6.out.low hb)
    have R7 := Aside0.mk (Kd.R_below R6.out hb)
    have G7 := Aside0.mk (blk_below G6.out hb)
    have L7 := Aside0.mk (below_then L6.out B6.out hb)
    have HB7 := Aside0.mk (Nat.le_trans B6.out hb.size)
    have D7 := Aside0.mk (D6.out.below hb)
    have GW7 := Aside0.mk (GW6.out.below hb)
    rw [hW, hgx, hgy]
    clear hW hgx hgy hb K6 F6 R6 G6 L6 B6 D6 GW6
    have q0 := blk_cell Y6.out 0
    have q1 := blk_cell Y6.out 1
    rcases HINV.out with ⟨hq, rfl, rfl, hc, hs⟩ | ⟨hq, Lm, rfl, hdm⟩
    · have hc : c = code := hc
      have hs : s = st := hs
      subst hc; subst hs
      have HLa : Aside0 (La = L0 ++ L) := ⟨by rw [← HLL.out, List.append_nil]⟩
      have hok : ok = false := hq.1
      subst hok
      by_cases hc0 : c = 0
      · have e1 : (c == 0) = true := by simp [hc0]
        have e2 : decide (c = 0) = true := decide_eq_true hc0
        clear hq hc0
        go_upto_region 3 with fail
        refine start_ (n := 4) (S := fun w' => w'.cell? ⟨gy, 0, none⟩ = some (.int .i64 c) ∧ w'.cell? ⟨gy, 1, none⟩ = some (.int .i64 s) ∧ w'.heap[g5]? = some (.cells #[.int .i64 0, .int .i64 0] 35 (0, 0)) ∧ FAt w' g f2 ∧ Kd.R kTd 110 w' base (fun _ => True) u1 La ∧ Below base w0 w' ∧ Dr g v w w') (ds := [3]) #[false, false, false, false] (by kernel_rfl) rfl rfl ⟨blk_cell (blk_below Y6.out (below_drew (Below.refl _ _))) 0, blk_cell (blk_below Y6.out (below_drew (Below.refl _ _))) 1, blk_below G7.out (below_drew (Below.refl _ _)), F7.out.low (below_drew (Below.refl _ _)), Kd.R_below R7.out (below_drew (Below.refl _ _)), below_then L7.out HB7.out (below_drew (Below.refl _ _)), D7.out.below (below_drew (Below.refl _ _))⟩ (fun hHeld => ?_)
        refine pure_ (i := 0) (N := some 27) (v := ?_) (a' := ?_) #[true, false, false, false] rfl rfl (by kernel_rfl) (fun _ _ _ h => h) (Or.inl ⟨by rfl, ?_⟩) ?_ ?_
        rotate_left
        · intro w'
          go_simp
          with_reducible rfl
        rotate_left
        · simp only [Act.put, List.setIfInBounds_toArray, List.set_cons_zero, List.set_cons_succ, i64_w, i32_w]
          rfl
        refine pure_ (i := 2) (N := some 4) (v := ?_) (a' := ?_) #[true, false, true, false] rfl rfl (by kernel_rfl) (fun _ _ _ h => h) (Or.inl ⟨by rfl, ?_⟩) ?_ ?_
        rotate_left
        · intro w'
          go_simp
          with_reducible rfl
        rotate_left
        · simp only [Act.put, List.setIfInBounds_toArray, List.set_cons_zero, List.set_cons_succ, i64_w, i32_w]
          rfl
        refine take_ (i := 1) (N := some 28) (v := ?_) (a' := ?_) #[true, true, true, false] rfl rfl (by kernel_rfl) (fun _ _ _ h => h) (Or.inl ⟨by rfl, ?_⟩) hHeld ?_ ?_
        rotate_left
        · rintro w' ⟨s0, s1, s2, s3, s4, s5, s6⟩
          go_simp
          with_reducible rfl
        rotate_left
        · simp only [Act.put, List.setIfInBounds_toArray, List.set_cons_zero, List.set_cons_succ, i64_w, i32_w]
          rfl
        refine last_ (i := 3) (N := none) #[true, true, true, true] rfl rfl (by kernel_rfl) (by decide) (fun K hK => ?_)
        have G9 := Aside0.mk (hHeld.2.2.1)
        have F9 := Aside0.mk (hHeld.2.2.2.1)
        have R9 := Aside0.mk (hHeld.2.2.2.2.1)
        have L9 := Aside0.mk (hHeld.2.2.2.2.2.1)
        have D9 := Aside0.mk (hHeld.2.2.2.2.2.2)
        refine skip_row 35 _ _ rfl (by rfl) rfl g5 #[.int .i64 c, .int .i64 s] rfl rfl 35 _ G9.out (by kernel_rfl) (by kernel_rfl) (by kernel_rfl) ?_
        obtain ⟨W9, e9, p6, po, pb⟩ := row_store _ g5 #[.int .i64 c, .int .i64 s] 35 _ G9.out
        rw [e9]
        have G10 := Aside0.mk p6
        have F10 : Aside0 (FAt W9 g f2) := ⟨(po g HG5.out.2.2).trans F9.out⟩
        have R10 : Aside0 (Kd.R kTd 110 W9 base (fun _ => True) u1 La) := ⟨Kd.R_mono (Kd.R_step (Kd.R_types R9.out G9.out (by intro q hq; rcases kTd_E q hq with rfl | rfl <;> decide)) (fun k hk _ => po k hk.2)) (fun _ _ => trivial)⟩
        have L10 := Aside0.mk (pb _ _ L9.out HG5.out.2.1)
        have D10 := Aside0.mk (D9.out.row HG5.out.1 po (pb 0 _ (Below.refl _ _) (Nat.zero_le _)))
        clear p6 po pb e9 G9 F9 R9 L9 D9
        refine hK.out _ _ ?_
        clear hK K
        refine done_ (by kernel_rfl) ?_
        go_wp2_with fail
        exact bodyPost_ret (res33 _ _ g5 u1 c s rfl rfl G10.out) rfl ⟨u1, rfl, by have h := R10.out; rw [HLa.out] at h; exact h, F10.out, L10.out, D10.out, HV1.out⟩
      · have hs0 : s = 0 := by rcases hq.2 with h | h; exact absurd h hc0; exact h
        have e1 : (c == 0) = false := by simp [hc0]
        have e2 : decide (c = 0) = false := decide_eq_false hc0
        have e3 : (s == 0) = true := by simp [hs0]
        have e4 : decide (s = 0) = true := decide_eq_true hs0
        clear hq hc0 hs0
        go_upto_region 3 with fail
        refine start_ (n := 4) (S := fun w' => w'.cell? ⟨gy, 0, none⟩ = some (.int .i64 c) ∧ w'.cell? ⟨gy, 1, none⟩ = some (.int .i64 s) ∧ w'.heap[g5]? = some (.cells #[.int .i64 0, .int .i64 0] 35 (0, 0)) ∧ FAt w' g f2 ∧ Kd.R kTd 110 w' base (fun _ => True) u1 La ∧ Below base w0 w' ∧ Dr g v w w') (ds := [3]) #[false, false, false, false] (by kernel_rfl) rfl rfl ⟨blk_cell (blk_below Y6.out (below_drew (Below.refl _ _))) 0, blk_cell (blk_below Y6.out (below_drew (Below.refl _ _))) 1, blk_below G7.out (below_drew (Below.refl _ _)), F7.out.low (below_drew (Below.refl _ _)), Kd.R_below R7.out (below_drew (Below.refl _ _)), below_then L7.out HB7.out (below_drew (Below.refl _ _)), D7.out.below (below_drew (Below.refl _ _))⟩ (fun hHeld => ?_)
        refine pure_ (i := 0) (N := some 27) (v := ?_) (a' := ?_) #[true, false, false, false] rfl rfl (by kernel_rfl) (fun _ _ _ h => h) (Or.inl ⟨by rfl, ?_⟩) ?_ ?_
        rotate_left
        · intro w'
          go_simp
          with_reducible rfl
        rotate_left
        · simp only [Act.put, List.setIfInBounds_toArray, List.set_cons_zero, List.set_cons_succ, i64_w, i32_w]
          rfl
        refine pure_ (i := 2) (N := some 4) (v := ?_) (a' := ?_) #[true, false, true, false] rfl rfl (by kernel_rfl) (fun _ _ _ h => h) (Or.inl ⟨by rfl, ?_⟩) ?_ ?_
        rotate_left
        · intro w'
          go_simp
          with_reducible rfl
        rotate_left
        · simp only [Act.put, List.setIfInBounds_toArray, List.set_cons_zero, List.set_cons_succ, i64_w, i32_w]
          rfl
        refine take_ (i := 1) (N := some 28) (v := ?_) (a' := ?_) #[true, true, true, false] rfl rfl (by kernel_rfl) (fun _ _ _ h => h) (Or.inl ⟨by rfl, ?_⟩) hHeld ?_ ?_
        rotate_left
        · rintro w' ⟨s0, s1, s2, s3, s4, s5, s6⟩
          go_simp
          with_reducible rfl
        rotate_left
        · simp only [Act.put, List.setIfInBounds_toArray, List.set_cons_zero, List.set_cons_succ, i64_w, i32_w]
          rfl
        refine last_ (i := 3) (N := none) #[true, true, true, true] rfl rfl (by kernel_rfl) (by decide) (fun K hK => ?_)
        have G9 := Aside0.mk (hHeld.2.2.1)
        have F9 := Aside0.mk (hHeld.2.2.2.1)
        have R9 := Aside0.mk (hHeld.2.2.2.2.1)
        have L9 := Aside0.mk (hHeld.2.2.2.2.2.1)
        have D9 := Aside0.mk (hHeld.2.2.2.2.2.2)
        refine skip_row 35 _ _ rfl (by rfl) rfl g5 #[.int .i64 c, .int .i64 s] rfl rfl 35 _ G9.out (by kernel_rfl) (by kernel_rfl) (by kernel_rfl) ?_
        obtain ⟨W9, e9, p6, po, pb⟩ := row_store _ g5 #[.int .i64 c, .int .i64 s] 35 _ G9.out
        rw [e9]
        have G10 := Aside0.mk p6
        have F10 : Aside0 (FAt W9 g f2) := ⟨(po g HG5.out.2.2).trans F9.out⟩
        have R10 : Aside0 (Kd.R kTd 110 W9 base (fun _ => True) u1 La) := ⟨Kd.R_mono (Kd.R_step (Kd.R_types R9.out G9.out (by intro q hq; rcases kTd_E q hq with rfl | rfl <;> decide)) (fun k hk _ => po k hk.2)) (fun _ _ => trivial)⟩
        have L10 := Aside0.mk (pb _ _ L9.out HG5.out.2.1)
        have D10 := Aside0.mk (D9.out.row HG5.out.1 po (pb 0 _ (Below.refl _ _) (Nat.zero_le _)))
        clear p6 po pb e9 G9 F9 R9 L9 D9
        refine hK.out _ _ ?_
        clear hK K
        refine done_ (by kernel_rfl) ?_
        go_wp2_with fail
        exact bodyPost_ret (res33 _ _ g5 u1 c s rfl rfl G10.out) rfl ⟨u1, rfl, by have h := R10.out; rw [HLa.out] at h; exact h, F10.out, L10.out, D10.out, HV1.out⟩
    · have HDm := Aside0.mk hdm
      have HLT := Aside0.mk (HLTT.out hq)
      clear hdm
      cases ok
      · have hc0 : ¬ code = 0 := fun h => hq ⟨rfl, .inl h⟩
        have hs0 : ¬ st = 0 := fun h => hq ⟨rfl, .inr h⟩
        have e1 : (code == 0) = false := by simp [hc0]
        have e2 : decide (code = 0) = false := decide_eq_false hc0
        have e3 : (st == 0) = false := by simp [hs0]
        have e4 : decide (st = 0) = false := decide_eq_false hs0
        clear hq hc0 hs0
        go_wp2_with (first
          | (refine wpList_load_row rfl 24 _ rfl gx rfl 24 (x.cells A6 c6) (0, 0) _ X6.out Tryd.underlying24 (by rfl) (by kernel_rfl) ?_; unfold Fr.cells)
          | ((with_reducible refine gate_builtin (b := .append) (xs := #[.tmp 29, .tmp 33]) rfl ?_); at_builtin; refine Kd.R_append kTd (w0 := w0) base rfl (.tmp 29) (.tmp 33) 53 110 _ 128 rfl Tryd.underlying53 info110 rfl (Nat.succ_pos 12) (Nat.succ_pos 127) u1 La ⟨x, code, st⟩ [.int .i64 x.ty, .int .i64 x.fl, .int .i64 x.st, .string x.da, .int .i64 x.pad, .int .i64 x.dep, .bool x.ex, .int .i64 x.wt, .int .i64 x.co, .int .i64 x.la, .slice A6 x.ps.length c6, .int .i64 code, .int .i64 st] (fun _ => True) (fun k => wr.heap.size ≤ k) rfl rfl (kTd_mk (x := ⟨x, code, st⟩) K7.out) (fun k hk => ⟨trivial, fun e => absurd (HVL.out k e.symm) (Nat.not_lt.mpr hk)⟩) (fun _ _ => trivial) R7.out L7.out HB7.out ?aL ?_; (case aL => have := HLN.out; omega); intro v2 w9 ho hb hg hat; have F9 : Aside0 (FAt _ g fn) := ⟨blk_grown F7.out hg (Kd.R_ne R7.out F7.out (by decide))⟩; have G9 := Aside0.mk (blk_grown G7.out hg (Kd.R_ne R7.out G7.out (by decide))); have R9 := Aside0.mk ho; have L9 := Aside0.mk hb; have D9 := Aside0.mk (D7.out.grown hg HV1.out); have B9 := Aside0.mk (Nat.le_trans HB7.out hg.size); have GW9 := Aside0.mk (GW7.out.grownU hg (fun e => by have := Kd.R_base R7.out 0 e.symm; have := H0.out; omega)); have HV2 : Aside0 (v2.ownBlock = v.ownBlock ∨ ∃ b, v2.ownBlock = some b ∧ w.heap.size ≤ b) := ⟨by rcases hat with e | ⟨b, e, h⟩; (rw [e]; exact HV1.out); exact .inr ⟨b, e, by have := D7.out.size; omega⟩⟩; clear ho hb hg hat))
        go_roundw
        case rel => refine ⟨fn, La ++ [⟨x, code, st⟩], Lm, ?_⟩; exact ⟨HDm, ⟨by rw [← HLL.out, List.append_assoc]; rfl⟩, HOn, HSn, GW9, F9, R9, G9, L9, B9, D9, HV2⟩
        case measure =>
          rw [wtW_of F9.out, wtW_of F1.out]
          exact HLT.out
      · clear hq
        go_wp2_with (first
          | (refine wpList_load_row rfl 24 _ rfl gx rfl 24 (x.cells A6 c6) (0, 0) _ X6.out Tryd.underlying24 (by rfl) (by kernel_rfl) ?_; unfold Fr.cells)
          | ((with_reducible refine gate_builtin (b := .append) (xs := #[.tmp 29, .tmp 33]) rfl ?_); at_builtin; refine Kd.R_append kTd (w0 := w0) base rfl (.tmp 29) (.tmp 33) 53 110 _ 128 rfl Tryd.underlying53 info110 rfl (Nat.succ_pos 12) (Nat.succ_pos 127) u1 La ⟨x, code, st⟩ [.int .i64 x.ty, .int .i64 x.fl, .int .i64 x.st, .string x.da, .int .i64 x.pad, .int .i64 x.dep, .bool x.ex, .int .i64 x.wt, .int .i64 x.co, .int .i64 x.la, .slice A6 x.ps.length c6, .int .i64 code, .int .i64 st] (fun _ => True) (fun k => wr.heap.size ≤ k) rfl rfl (kTd_mk (x := ⟨x, code, st⟩) K7.out) (fun k hk => ⟨trivial, fun e => absurd (HVL.out k e.symm) (Nat.not_lt.mpr hk)⟩) (fun _ _ => trivial) R7.out L7.out HB7.out ?aL ?_; (case aL => have := HLN.out; omega); intro v2 w9 ho hb hg hat; have F9 : Aside0 (FAt _ g fn) := ⟨blk_grown F7.out hg (Kd.R_ne R7.out F7.out (by decide))⟩; have G9 := Aside0.mk (blk_grown G7.out hg (Kd.R_ne R7.out G7.out (by decide))); have R9 := Aside0.mk ho; have L9 := Aside0.mk hb; have D9 := Aside0.mk (D7.out.grown hg HV1.out); have B9 := Aside0.mk (Nat.le_trans HB7.out hg.size); have GW9 := Aside0.mk (GW7.out.grownU hg (fun e => by have := Kd.R_base R7.out 0 e.symm; have := H0.out; omega)); have HV2 : Aside0 (v2.ownBlock = v.ownBlock ∨ ∃ b, v2.ownBlock = some b ∧ w.heap.size ≤ b) := ⟨by rcases hat with e | ⟨b, e, h⟩; (rw [e]; exact HV1.out); exact .inr ⟨b, e, by have := D7.out.size; omega⟩⟩; clear ho hb hg hat))
        go_roundw
        case rel => refine ⟨fn, La ++ [⟨x, code, st⟩], Lm, ?_⟩; exact ⟨HDm, ⟨by rw [← HLL.out, List.append_assoc]; rfl⟩, HOn, HSn, GW9, F9, R9, G9, L9, B9, D9, HV2⟩
        case measure =>
          rw [wtW_of F9.out, wtW_of F1.out]
          exact HLT.out
end Go.Proofs.YtoffhlbdfhhhjaaDoor.Fr
