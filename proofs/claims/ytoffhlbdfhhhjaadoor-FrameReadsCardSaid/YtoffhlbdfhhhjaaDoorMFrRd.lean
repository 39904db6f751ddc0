/- FrameReads: both Reads tell the same. The package's variable holds what the program lays. -/
import Derived.Test.YtoffhlbdfhhhjaaDoorMFrRc
import Derived.Test.YtoffhlbdfhhhjaaDoorMFrO2
namespace Go.Proofs.YtoffhlbdfhhhjaaDoor.Fr
open Go Go.RowKit Go.Proofs.YtoffhlbdfhhhjaaDoorW.PrintWords Go.Proofs.YtoffhlbdfhhhjaaDoorW.PrintLast Go.Proofs.YtoffhlbdfhhhjaaDoorW.PrintMore Go.Proofs.YtoffhlbdfhhhjaaDoor.QL
set_option linter.unusedSimpArgs false
set_option linter.unusedVariables false
set_option maxHeartbeats 40000000
set_option maxRecDepth 100000
/-- A whole row is loaded by an operation whose guard says yes. -/
theorem load_rowR {P : Program} {ops : Array Oper} {rest : List Oper} {o : Oper} {a : Act} {w : World} {Q : Exit → Act → World → Prop} (hw : Region.wanted o (yielded ops a.tmps) = true) (ty : TypeId) (x : Operand) (ho : o.op = .load ty x)
    (g : Nat) (hx : a.eval x = .pointer (some ⟨g, 0, none⟩)) (t : TypeId) (cs : Array Value) (fr : Nat × Nat) (d : TypeDesc) (hg : w.heap[g]? = some (.cells cs t fr))
    (hu : P.underlying ty = some d) (hd : (match d with | .struct _ | .array _ _ => true | _ => false) = true) (hi : (P.info? ty).map (·.size) = some cs.size)
    (h : wpList P ops Q rest (a.put o.dst (.agg cs)) w) : wpList P ops Q (o :: rest) a w :=
  BigFrame.wpList_want hw fun _ hK => wp_load_row ty x ho g hx t cs fr d hg hu hd hi (hK _ _ h)
theorem rdF_ps (b : ByteArray) (most : Int) : (rdF b most).fr.ps.length ≤ 65536 := by
  rcases one_w b most with ⟨c, hc, e⟩ | ⟨n, st, e, _⟩ | ⟨g, n, s, h⟩
  · rw [e]
    exact Nat.zero_le _
  · rw [e]
    exact Nat.zero_le _
  · rw [h.rd]
    exact h.ps
theorem reads_calls (b : ByteArray) (most : Int) (w : World) (hG : GL w) (h63 : b.size ≤ 9223372036854775807) :
    Calls Tryd.prog 4 #[.string b, .int .i64 most] w fun e w' => e = .returned (.bool true) ∧ Below w.heap.size w w' := by
  have HG := Aside0.mk hG
  have HB := Aside0.mk (Below.refl w.heap.size w)
  have H63 := Aside0.mk h63
  have HPL := Aside0.mk (rdF_ps b most)
  clear hG h63
  obtain ⟨R, hR⟩ : ∃ R, rdF b most = R := ⟨_, rfl⟩
  have HR := Aside0.mk hR
  rw [hR] at HPL
  clear hR
  go_enter Tryd.func4, Tryd.ntmps4
  go_upto_region 2 with (go_at_call 20; refine (read_calls b most _ HG.out H63.out).mono ?_; rintro e w3 hrd; rw [HR.out] at hrd; obtain ⟨A3, c3, rfl, hr3, hb⟩ := hrd; have R3 := Aside0.mk hr3; have L3 := Aside0.mk hb; clear hb hr3; unfold Fr.cells)
  obtain ⟨W3, hW⟩ : ∃ W, (w3.alloc (.cells #[.int .i64 R.fr.ty, .int .i64 R.fr.fl, .int .i64 R.fr.st, .string R.fr.da, .int .i64 R.fr.pad, .int .i64 R.fr.dep, .bool R.fr.ex, .int .i64 R.fr.wt, .int .i64 R.fr.co, .int .i64 R.fr.la, .slice A3 R.fr.ps.length c3] 24)).alloc (.cells #[.int .i64 R.code, .int .i64 R.st] 35) = W := ⟨_, rfl⟩
  obtain ⟨g5, hg⟩ : ∃ g, w3.heap.size = g := ⟨_, rfl⟩
  obtain ⟨g7, hh⟩ : ∃ g, g5 + 1 = g := ⟨_, rfl⟩
  have LA3 : Aside0 (Below w3.heap.size w3 W3) := ⟨by rw [← hW]; exact below_alloc (below_alloc (Below.refl _ _) _) _⟩
  have X3 : Aside0 (At W3 g5 R.fr A3 c3) := ⟨by rw [← hW, ← hg]; exact heap_alloc2_old _ _ _⟩
  have Y3 : Aside0 (W3.heap[g7]? = some (.cells #[.int .i64 R.code, .int .i64 R.st] 35 (0, 0))) := ⟨by rw [← hh, ← hW, ← hg]; exact heap_alloc2_new _ _ _⟩
  have C3 : Aside0 (Kd.C k32 W3 A3 R.fr.ps.length R.fr.ps ∧ R.fr.ps.length ≤ c3) := ⟨by have h := Kd.R_reads' R3.out; exact ⟨Kd.C_below h.2.2 LA3.out, h.2.1⟩⟩
  have M3 : Aside0 (Below w.heap.size w W3) := ⟨below_then L3.out L3.out.size LA3.out⟩
  rw [hW, hg, hh]
  clear hW hg hh R3 L3
  go_upto_region 3 with (go_at_call 21; refine (readR_calls b most _ H63.out).mono ?_; rintro e w6 hrd; rw [HR.out] at hrd; obtain ⟨A6, c6, rfl, hr3, hb⟩ := hrd; have R6 := Aside0.mk hr3; have B6 := Aside0.mk hb; have L6 := Aside0.mk (below_then M3.out M3.out.size hb); clear hb hr3; unfold Fr.cells)
  obtain ⟨W6, hW⟩ : ∃ W, (w6.alloc (.cells #[.int .i64 R.fr.ty, .int .i64 R.fr.fl, .int .i64 R.fr.st, .string R.fr.da, .int .i64 R.fr.pad, .int .i64 R.fr.dep, .bool R.fr.ex, .int .i64 R.fr.wt, .int .i64 R.fr.co, .int .i64 R.fr.la, .slice A6 R.fr.ps.length c6] 24)).alloc (.cells #[.int .i64 R.code, .int .i64 R.st] 35) = W := ⟨_, rfl⟩
  obtain ⟨g8, hg⟩ : ∃ g, w6.heap.size = g := ⟨_, rfl⟩
  obtain ⟨g10, hh⟩ : ∃ g, g8 + 1 = g := ⟨_, rfl⟩
  have LA6 : Aside0 (Below w6.heap.size w6 W6) := ⟨by rw [← hW]; exact below_alloc (below_alloc (Below.refl _ _) _) _⟩
  have X6 : Aside0 (At W6 g8 R.fr A6 c6) := ⟨by rw [← hW, ← hg]; exact heap_alloc2_old _ _ _⟩
  have Y6 : Aside0 (W6.heap[g10]? = some (.cells #[.int .i64 R.code, .int .i64 R.st] 35 (0, 0))) := ⟨by rw [← hh, ← hW, ← hg]; exact heap_alloc2_new _ _ _⟩
  have C6 : Aside0 (Kd.C k32 W6 A6 R.fr.ps.length R.fr.ps ∧ R.fr.ps.length ≤ c6) := ⟨by have h := Kd.R_reads' R6.out; exact ⟨Kd.C_below h.2.2 LA6.out, h.2.1⟩⟩
  have M6 : Aside0 (Below w.heap.size w W6) := ⟨below_then L6.out L6.out.size LA6.out⟩
  rw [hW, hg, hh]
  clear hW hg hh R6 L6
  have X3b := Aside0.mk ((X3.out.low B6.out).low LA6.out)
  have Y3b := Aside0.mk (blk_below (blk_below Y3.out B6.out) LA6.out)
  have C3b := Aside0.mk (Kd.C_below (Kd.C_below C3.out.1 B6.out) LA6.out)
  clear LA3 X3 Y3 M3 B6 LA6
  go_wp2_with (first
    | (go_at_call 19; refine (first_calls _ (HG.out.below M6.out)).mono ?_; rintro e w7 ⟨rfl, hb⟩; have L7 := Aside0.mk (below_then M6.out M6.out.size hb); have q0 := blk_cell (blk_below Y3b.out hb) 0; have q1 := blk_cell (blk_below Y3b.out hb) 1; have q2 := blk_cell (blk_below Y6.out hb) 0; have q3 := blk_cell (blk_below Y6.out hb) 1; have Z3 := Aside0.mk (X3b.out.low hb); have Z6 := Aside0.mk (X6.out.low hb); have D3 := Aside0.mk (Kd.C_below C3b.out hb); have D6 := Aside0.mk (Kd.C_below C6.out.1 hb); clear hb)
    | (refine load_rowR (by rfl) 24 _ rfl g5 rfl 24 (R.fr.cells A3 c3) (0, 0) _ Z3.out Tryd.underlying24 (by rfl) (by kernel_rfl) ?_)
    | (refine load_rowR (by rfl) 24 _ rfl g8 rfl 24 (R.fr.cells A6 c6) (0, 0) _ Z6.out Tryd.underlying24 (by rfl) (by kernel_rfl) ?_)
    | (go_at_call 22; refine (same_calls R.fr A3 A6 c3 c6 _ (by have := HPL.out; omega) D3.out C3.out.2 D6.out C6.out.2).mono ?_; rintro e w10 ⟨rfl, hb⟩; have L10 := Aside0.mk hb; clear hb))
  go_ret
  exact ⟨rfl, below_then L7.out L7.out.size L10.out⟩
end Go.Proofs.YtoffhlbdfhhhjaaDoor.Fr
