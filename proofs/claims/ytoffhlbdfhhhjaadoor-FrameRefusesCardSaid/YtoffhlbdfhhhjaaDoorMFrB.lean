/- Frames as bytes: what each type lays into the builder. The frame lies in a block below the builder's; the texts fit in memory. -/
import Derived.Test.YtoffhlbdfhhhjaaDoorMFrA
namespace Go.Proofs.YtoffhlbdfhhhjaaDoor.Fr
open Go Go.RowKit Go.Proofs.YtoffhlbdfhhhjaaDoorW.PrintWords Go.Proofs.YtoffhlbdfhhhjaaDoorW.PrintLast Go.Proofs.YtoffhlbdfhhhjaaDoorW.PrintMore Go.Proofs.YtoffhlbdfhhhjaaDoor.QL
set_option linter.unusedSimpArgs false
set_option linter.unusedVariables false
set_option maxHeartbeats 4000000
set_option maxRecDepth 100000
/-- A frame. -/
structure Fr where
  ty : Int
  fl : Int
  st : Int
  da : ByteArray
  pad : Int
  dep : Int
  ex : Bool
  wt : Int
  co : Int
  la : Int
  ps : List S32
def Fr.cells (f : Fr) (A : Option Addr) (c : Nat) : Array Value := #[.int .i64 f.ty, .int .i64 f.fl, .int .i64 f.st, .string f.da, .int .i64 f.pad, .int .i64 f.dep, .bool f.ex, .int .i64 f.wt, .int .i64 f.co, .int .i64 f.la, .slice A f.ps.length c]
def Fr.zero : Fr := ⟨0, 0, 0, ByteArray.empty, 0, 0, false, 0, 0, 0, []⟩
/-- A frame lies in block g of w. -/
def At (w : World) (g : Nat) (f : Fr) (A : Option Addr) (c : Nat) : Prop := w.heap[g]? = some (.cells (f.cells A c) 24 (0, 0))
theorem At.below {w w1 : World} {g : Nat} {f : Fr} {A : Option Addr} {c B : Nat} (h : At w g f A c) (hg : g < B) (hb : Below B w w1) : At w1 g f A c := (hb.block g hg).trans h
theorem At.wr {w w1 : World} {g B b : Nat} {f : Fr} {A : Option Addr} {c : Nat} (h : At w g f A c) (hg : g ≠ b) (hb : Wr B b w w1) : At w1 g f A c := hb.blk h (by decide) hg
theorem At.c0 {w : World} {g : Nat} {f : Fr} {A : Option Addr} {c : Nat} (h : At w g f A c) : w.cell? ⟨g, 0, none⟩ = some (.int .i64 f.ty) := blk_cell h 0
theorem At.c1 {w : World} {g : Nat} {f : Fr} {A : Option Addr} {c : Nat} (h : At w g f A c) : w.cell? ⟨g, 1, none⟩ = some (.int .i64 f.fl) := blk_cell h 1
theorem At.c2 {w : World} {g : Nat} {f : Fr} {A : Option Addr} {c : Nat} (h : At w g f A c) : w.cell? ⟨g, 2, none⟩ = some (.int .i64 f.st) := blk_cell h 2
theorem At.c3 {w : World} {g : Nat} {f : Fr} {A : Option Addr} {c : Nat} (h : At w g f A c) : w.cell? ⟨g, 3, none⟩ = some (.string f.da) := blk_cell h 3
theorem At.c4 {w : World} {g : Nat} {f : Fr} {A : Option Addr} {c : Nat} (h : At w g f A c) : w.cell? ⟨g, 4, none⟩ = some (.int .i64 f.pad) := blk_cell h 4
theorem At.c5 {w : World} {g : Nat} {f : Fr} {A : Option Addr} {c : Nat} (h : At w g f A c) : w.cell? ⟨g, 5, none⟩ = some (.int .i64 f.dep) := blk_cell h 5
theorem At.c6 {w : World} {g : Nat} {f : Fr} {A : Option Addr} {c : Nat} (h : At w g f A c) : w.cell? ⟨g, 6, none⟩ = some (.bool f.ex) := blk_cell h 6
theorem At.c7 {w : World} {g : Nat} {f : Fr} {A : Option Addr} {c : Nat} (h : At w g f A c) : w.cell? ⟨g, 7, none⟩ = some (.int .i64 f.wt) := blk_cell h 7
theorem At.c8 {w : World} {g : Nat} {f : Fr} {A : Option Addr} {c : Nat} (h : At w g f A c) : w.cell? ⟨g, 8, none⟩ = some (.int .i64 f.co) := blk_cell h 8
theorem At.c9 {w : World} {g : Nat} {f : Fr} {A : Option Addr} {c : Nat} (h : At w g f A c) : w.cell? ⟨g, 9, none⟩ = some (.int .i64 f.la) := blk_cell h 9
theorem At.c10 {w : World} {g : Nat} {f : Fr} {A : Option Addr} {c : Nat} (h : At w g f A c) : w.cell? ⟨g, 10, none⟩ = some (.slice A f.ps.length c) := blk_cell h 10
/-- What a lay does: the bytes x go behind l. -/
def Lays (n B b g : Nat) (l x : List UInt8) (w : World) : Prop := Calls Tryd.prog n #[.pointer (some ⟨b, 0, none⟩), .pointer (some ⟨g, 0, none⟩)] w fun e w' => e = .returned (.tuple #[]) ∧ Bd B b (l ++ x) w' ∧ Wr B b w w'
theorem put_n (k B b : Nat) (l : List UInt8) (v : Int) (i : Int) (w : World) (h : Bd B b l w) (hi : i = (k : Int)) (hn : k ≤ 4) (hlen : l.length + 8 ≤ 140737488355328) (hBw : B ≤ w.heap.size) :
    Calls Tryd.prog 47 #[.pointer (some ⟨b, 0, none⟩), .int .i64 v, .int .i64 i] w fun e w' => e = .returned (.tuple #[]) ∧ Bd B b (l ++ be k v) w' ∧ Wr B b w w' := by
  subst hi
  exact put_calls B b l v k w h hn hlen hBw
theorem layData_calls (B b g : Nat) (l : List UInt8) (f : Fr) (A : Option Addr) (c : Nat) (w : World) (h : Bd B b l w) (hf : At w g f A c) (hlen : l.length + f.da.size ≤ 140737488355328) (hBw : B ≤ w.heap.size) : Lays 83 B b g l f.da.data.toList w := by
  have z3 := hf.c3
  have H := Aside0.mk h
  have HBW := Aside0.mk hBw
  have HL := Aside0.mk hlen
  clear h hf hBw hlen
  unfold Lays
  go_enter Tryd.func83, Tryd.ntmps83
  go_wp2_with (go_at_call 49; refine (text_calls B b l f.da _ H.out HL.out HBW.out).mono ?_; rintro e w8 ⟨rfl, h1, h2⟩; have H1 := Aside0.mk h1; have H2 := Aside0.mk h2; clear h1 h2)
  go_end0
  exact ⟨rfl, H1.out, H2.out⟩
theorem layReset_calls (B b g : Nat) (l : List UInt8) (f : Fr) (A : Option Addr) (c : Nat) (w : World) (h : Bd B b l w) (hf : At w g f A c) (hlen : l.length + 8 ≤ 140737488355328) (hBw : B ≤ w.heap.size) : Lays 77 B b g l (be 4 f.co) w := by
  have z3 := hf.c8
  have H := Aside0.mk h
  have HBW := Aside0.mk hBw
  have HL := Aside0.mk hlen
  clear h hf hBw hlen
  unfold Lays
  go_enter Tryd.func77, Tryd.ntmps77
  go_wp2_with (go_at_call 47; refine (put_n 4 B b l f.co _ _ H.out rfl (by decide) HL.out HBW.out).mono ?_; rintro e w8 ⟨rfl, h1, h2⟩; have H1 := Aside0.mk h1; have H2 := Aside0.mk h2; clear h1 h2)
  go_end0
  exact ⟨rfl, H1.out, H2.out⟩
theorem layWindow_calls (B b g : Nat) (l : List UInt8) (f : Fr) (A : Option Addr) (c : Nat) (w : World) (h : Bd B b l w) (hf : At w g f A c) (hlen : l.length + 8 ≤ 140737488355328) (hBw : B ≤ w.heap.size) : Lays 87 B b g l (be 4 f.la) w := by
  have z3 := hf.c9
  have H := Aside0.mk h
  have HBW := Aside0.mk hBw
  have HL := Aside0.mk hlen
  clear h hf hBw hlen
  unfold Lays
  go_enter Tryd.func87, Tryd.ntmps87
  go_wp2_with (go_at_call 47; refine (put_n 4 B b l f.la _ _ H.out rfl (by decide) HL.out HBW.out).mono ?_; rintro e w8 ⟨rfl, h1, h2⟩; have H1 := Aside0.mk h1; have H2 := Aside0.mk h2; clear h1 h2)
  go_end0
  exact ⟨rfl, H1.out, H2.out⟩
theorem layPromise_calls (B b g : Nat) (l : List UInt8) (f : Fr) (A : Option Addr) (c : Nat) (w : World) (h : Bd B b l w) (hf : At w g f A c) (hg : g ≠ b) (hlen : l.length + f.da.size + 16 ≤ 140737488355328) (hBw : B ≤ w.heap.size) : Lays 81 B b g l (be 4 f.la ++ f.da.data.toList) w := by
  have z9 := hf.c9
  have HF := Aside0.mk hf
  have HG := Aside0.mk hg
  have H := Aside0.mk h
  have HBW := Aside0.mk hBw
  have HL := Aside0.mk hlen
  clear h hf hBw hlen hg
  unfold Lays
  go_enter Tryd.func81, Tryd.ntmps81
  go_wp2_with (first
    | (go_at_call 47; refine (put_n 4 B b l f.la _ _ H.out rfl (by decide) (by have := HL.out; omega) HBW.out).mono ?_; rintro e w8 ⟨rfl, h1, h2⟩; have z3 := (HF.out.wr HG.out h2).c3; have H1 := Aside0.mk h1; have H2 := Aside0.mk h2; clear h1 h2)
    | (go_at_call 49; refine (text_calls B b _ f.da _ H1.out (by rw [List.length_append, be_length]; have := HL.out; omega) (Nat.le_trans HBW.out H2.out.size)).mono ?_; rintro e w9 ⟨rfl, h1, h2⟩; have H3 := Aside0.mk h1; have H4 := Aside0.mk (H2.out.trans h2); clear h1 h2))
  go_end0
  exact ⟨rfl, by rw [← List.append_assoc]; exact H3.out, H4.out⟩
theorem layGoAway_calls (B b g : Nat) (l : List UInt8) (f : Fr) (A : Option Addr) (c : Nat) (w : World) (h : Bd B b l w) (hf : At w g f A c) (hg : g ≠ b) (hlen : l.length + f.da.size + 16 ≤ 140737488355328) (hBw : B ≤ w.heap.size) : Lays 85 B b g l (be 4 f.la ++ be 4 f.co ++ f.da.data.toList) w := by
  have z9 := hf.c9
  have HF := Aside0.mk hf
  have HG := Aside0.mk hg
  have H := Aside0.mk h
  have HBW := Aside0.mk hBw
  have HL := Aside0.mk hlen
  clear h hf hBw hlen hg
  unfold Lays
  go_enter Tryd.func85, Tryd.ntmps85
  go_upto_region 1 with (go_at_call 47; refine (put_n 4 B b l f.la _ _ H.out rfl (by decide) (by have := HL.out; omega) HBW.out).mono ?_; rintro e w8 ⟨rfl, h1, h2⟩; have H1 := Aside0.mk h1; have H2 := Aside0.mk h2; clear h1 h2)
  have z8 := (HF.out.wr HG.out H2.out).c8
  go_wp2_with (first
    | (go_at_call 47; refine (put_n 4 B b _ f.co _ _ H1.out rfl (by decide) (by rw [List.length_append, be_length]; have := HL.out; omega) (Nat.le_trans HBW.out H2.out.size)).mono ?_; rintro e w9 ⟨rfl, h1, h2⟩; have z3 := (HF.out.wr HG.out (H2.out.trans h2)).c3; have H3 := Aside0.mk h1; have H4 := Aside0.mk (H2.out.trans h2); clear h1 h2)
    | (go_at_call 49; refine (text_calls B b _ f.da _ H3.out (by rw [List.length_append, List.length_append, be_length, be_length]; have := HL.out; omega) (Nat.le_trans HBW.out H4.out.size)).mono ?_; rintro e w9 ⟨rfl, h1, h2⟩; have H5 := Aside0.mk h1; have H6 := Aside0.mk (H4.out.trans h2); clear h1 h2))
  go_end0
  exact ⟨rfl, by rw [← List.append_assoc, ← List.append_assoc]; exact H5.out, H6.out⟩
/-- The five bytes of a priority. -/
def weight (f : Fr) : List UInt8 := be 4 (f.dep + if f.ex = true then 2147483648 else 0) ++ be 1 (f.wt - 1)
theorem or_top (d : Int) (h0 : 0 ≤ d) (h1 : d ≤ 2147483647) : Go.bits .or .i64 d 2147483648 = d + 2147483648 := by
  have hc : Go.bits .or .i64 d 2147483648 = Go.bits .or .i64 2147483648 d := by
    unfold Go.bits
    simp only [BitVec.or_comm]
  rw [hc, bits_join .i64 63 (by decide) (fun n a b => IntWalk.i64_in n (by omega)) 31 2147483648 d (by decide) (by decide) (by decide) h0 (by omega) (by omega)]
  omega
theorem layWeight_calls (B b g : Nat) (l : List UInt8) (f : Fr) (A : Option Addr) (c : Nat) (w : World) (h : Bd B b l w) (hf : At w g f A c) (hg : g ≠ b) (h0 : 0 ≤ f.dep) (h1 : f.dep ≤ 2147483647) (hw0 : 1 ≤ f.wt) (hw1 : f.wt ≤ 256) (hlen : l.length + 16 ≤ 140737488355328) (hBw : B ≤ w.heap.size) : Lays 75 B b g l (weight f) w := by
  have z5 := hf.c5
  have z6 := hf.c6
  have hor := or_top f.dep h0 h1
  have HF := Aside0.mk hf
  have HG := Aside0.mk hg
  have H := Aside0.mk h
  have HBW := Aside0.mk hBw
  have HL := Aside0.mk hlen
  clear h hf hBw hlen hg
  obtain ⟨x, hx⟩ : ∃ x, f.ex = x := ⟨_, rfl⟩
  have HW : Aside0 (weight f = be 4 (f.dep + if x = true then 2147483648 else 0) ++ be 1 (f.wt - 1)) := ⟨by rw [← hx]; rfl⟩
  rw [hx] at z6
  clear hx
  unfold Lays
  cases x
  all_goals
    go_enter Tryd.func75, Tryd.ntmps75
    go_upto_region 4 with (go_at_call 47; refine (put_n 4 B b l _ _ _ H.out rfl (by decide) (by have := HL.out; omega) HBW.out).mono ?_; rintro e w8 ⟨rfl, h1, h2⟩; have H1 := Aside0.mk h1; have H2 := Aside0.mk h2; clear h1 h2)
    have z7 := (HF.out.wr HG.out H2.out).c7
    go_wp2_with (first
      | (go_at_call 47; refine (put_n 1 B b _ _ _ _ H1.out rfl (by decide) (by rw [List.length_append, be_length]; have := HL.out; omega) (Nat.le_trans HBW.out H2.out.size)).mono ?_; rintro e w9 ⟨rfl, h1, h2⟩; have H3 := Aside0.mk h1; have H4 := Aside0.mk (H2.out.trans h2); clear h1 h2))
    go_end0
    exact ⟨rfl, by rw [HW.out, ← List.append_assoc]; simpa using H3.out, H4.out⟩
end Go.Proofs.YtoffhlbdfhhhjaaDoor.Fr
