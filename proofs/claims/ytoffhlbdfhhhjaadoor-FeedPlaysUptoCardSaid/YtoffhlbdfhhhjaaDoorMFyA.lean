/- The document's feed: its block, its small functions. The feed lies in a block of its own. -/
import Derived.Test.YtoffhlbdfhhhjaaDoorMFdA
import Derived.Test.YtoffhlbdfhhhjaaDoorMFrK
namespace Go.Proofs.YtoffhlbdfhhhjaaDoor.Fr
open Go Go.RowKit Go.Proofs.YtoffhlbdfhhhjaaDoorW.PrintWords Go.Proofs.YtoffhlbdfhhhjaaDoorW.PrintLast Go.Proofs.YtoffhlbdfhhhjaaDoorW.PrintMore Go.Proofs.YtoffhlbdfhhhjaaDoor.QL
set_option linter.unusedSimpArgs false
set_option linter.unusedVariables false
set_option maxHeartbeats 8000000
set_option maxRecDepth 100000
/-- The document's feed. -/
structure Dc where
  gr : Bool
  most : Int
  b : ByteArray
  code : Int
  st : Int
def Dc.cells (f : Dc) : Array Value := #[.bool f.gr, .int .i64 f.most, .string f.b, .int .i64 f.code, .int .i64 f.st]
/-- It lies in block g of w. -/
def DAt (w : World) (g : Nat) (f : Dc) : Prop := w.heap[g]? = some (.cells f.cells 112 (0, 0))
theorem DAt.c0 {w : World} {g : Nat} {f : Dc} (h : DAt w g f) : w.cell? ⟨g, 0, none⟩ = some (.bool f.gr) := blk_cell h 0
theorem DAt.c1 {w : World} {g : Nat} {f : Dc} (h : DAt w g f) : w.cell? ⟨g, 1, none⟩ = some (.int .i64 f.most) := blk_cell h 1
theorem DAt.c2 {w : World} {g : Nat} {f : Dc} (h : DAt w g f) : w.cell? ⟨g, 2, none⟩ = some (.string f.b) := blk_cell h 2
theorem DAt.c3 {w : World} {g : Nat} {f : Dc} (h : DAt w g f) : w.cell? ⟨g, 3, none⟩ = some (.int .i64 f.code) := blk_cell h 3
theorem DAt.c4 {w : World} {g : Nat} {f : Dc} (h : DAt w g f) : w.cell? ⟨g, 4, none⟩ = some (.int .i64 f.st) := blk_cell h 4
theorem DAt.fz {w : World} {g : Nat} {f : Dc} (h : DAt w g f) (i : Nat) : w.frozen? ⟨g, i, none⟩ = false := blk_frozen h i
theorem DAt.low {w w1 : World} {g : Nat} {f : Dc} (h : DAt w g f) (hb : Below w.heap.size w w1) : DAt w1 g f := blk_below h hb
theorem DAt.put0 {w : World} {g : Nat} {f : Dc} (h : DAt w g f) (x : Bool) : DAt (w.setCell ⟨g, 0, none⟩ (.bool x)) g { f with gr := x } := by
  have hb := blk_set h 0 (.bool x)
  simpa [DAt, Dc.cells] using hb
theorem DAt.put1 {w : World} {g : Nat} {f : Dc} (h : DAt w g f) (x : Int) : DAt (w.setCell ⟨g, 1, none⟩ (.int .i64 x)) g { f with most := x } := by
  have hb := blk_set h 1 (.int .i64 x)
  simpa [DAt, Dc.cells] using hb
theorem DAt.put2 {w : World} {g : Nat} {f : Dc} (h : DAt w g f) (x : ByteArray) : DAt (w.setCell ⟨g, 2, none⟩ (.string x)) g { f with b := x } := by
  have hb := blk_set h 2 (.string x)
  simpa [DAt, Dc.cells] using hb
theorem DAt.put3 {w : World} {g : Nat} {f : Dc} (h : DAt w g f) (x : Int) : DAt (w.setCell ⟨g, 3, none⟩ (.int .i64 x)) g { f with code := x } := by
  have hb := blk_set h 3 (.int .i64 x)
  simpa [DAt, Dc.cells] using hb
theorem DAt.put4 {w : World} {g : Nat} {f : Dc} (h : DAt w g f) (x : Int) : DAt (w.setCell ⟨g, 4, none⟩ (.int .i64 x)) g { f with st := x } := by
  have hb := blk_set h 4 (.int .i64 x)
  simpa [DAt, Dc.cells] using hb
theorem Chg.dat {g k : Nat} {w w' : World} {f : Dc} (h : Chg g w w') (hk : DAt w k f) (hn : k ≠ g) : DAt w' k f := h.blk hk hn
theorem waiting7_calls (g : Nat) (f : Dc) (w : World) (h : DAt w g f) : Calls Tryd.prog 44 #[.pointer (some ⟨g, 0, none⟩)] w fun e w' => e = .returned (.int .i64 (f.b.size : Int)) ∧ Below w.heap.size w w' := by
  have z2 := h.c2
  have HB := Aside0.mk (Below.refl w.heap.size w)
  clear h
  go_enter Tryd.func44, Tryd.ntmps44
  go_wp2_with fail
  go_ret
  exact ⟨rfl, HB.out⟩
theorem setMost7_calls (g : Nat) (f : Dc) (x : Int) (w : World) (h : DAt w g f) : Calls Tryd.prog 43 #[.pointer (some ⟨g, 0, none⟩), .int .i64 x] w fun e w' => e = .returned (.tuple #[]) ∧ DAt w' g { f with most := x } ∧ Chg g w w' := by
  have z0 := h.c1
  have f0 := h.fz 1
  have H := Aside0.mk h
  clear h
  go_enter Tryd.func43, Tryd.ntmps43
  go_wp2_with fail
  go_end0
  exact ⟨rfl, H.out.put1 x, Chg.set _ _ _⟩
/-- A chunk behind what is waiting. -/
def pushR (f : Dc) (s : ByteArray) : Dc := if f.code = 0 then { f with b := f.b ++ s } else f
theorem push7_calls (g : Nat) (f : Dc) (s : ByteArray) (w : World) (h : DAt w g f) (hs : f.b.size + s.size ≤ 9223372036854775807) : Calls Tryd.prog 39 #[.pointer (some ⟨g, 0, none⟩), .string s] w fun e w' => e = .returned (.tuple #[]) ∧ DAt w' g (pushR f s) ∧ Chg g w w' := by
  have H := Aside0.mk h
  have hs2 : (f.b.size : Int) + (s.size : Int) ≤ 9223372036854775807 := by omega
  have z3 := h.c3
  have z2 := h.c2
  have f2 := h.fz 2
  clear h
  by_cases h0 : f.code = 0
  · have HP : Aside0 (pushR f s = { f with b := f.b ++ s }) := ⟨by unfold pushR; rw [if_pos h0]⟩
    rw [h0] at z3
    clear h0
    go_enter Tryd.func39, Tryd.ntmps39
    go_wp2_with fail
    go_end0
    rw [HP.out]
    exact ⟨rfl, H.out.put2 _, Chg.set _ _ _⟩
  · have HP : Aside0 (pushR f s = f) := ⟨by unfold pushR; rw [if_neg h0]⟩
    have b0 : (f.code == 0) = false := beq_eq_false_iff_ne.mpr h0
    clear h0
    go_enter Tryd.func39, Tryd.ntmps39
    go_wp2_with fail
    go_end0
    rw [HP.out]
    exact ⟨rfl, H.out, Chg.refl _ _⟩
theorem new7_calls (server : Bool) (most : Int) (w : World) : Calls Tryd.prog 37 #[.bool server, .int .i64 most] w fun e w' => e = .returned (.pointer (some ⟨w.heap.size, 0, none⟩)) ∧ DAt w' w.heap.size ⟨server, most, ByteArray.empty, 0, 0⟩ ∧ Below w.heap.size w w' := by
  have HB := Aside0.mk (Below.refl w.heap.size w)
  go_enter Tryd.func37, Tryd.ntmps37
  go_wp2_with fail
  go_ret
  exact ⟨rfl, blk_new w _, below_alloc HB.out _⟩
end Go.Proofs.YtoffhlbdfhhhjaaDoor.Fr
