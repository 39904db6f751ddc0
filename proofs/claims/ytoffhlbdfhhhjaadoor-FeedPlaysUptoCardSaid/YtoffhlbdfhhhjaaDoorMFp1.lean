/- Frames as bytes: the builder, what each type lays, the table of types. The package's variable holds what the program lays. -/
import Derived.Test.YtoffhlbdfhhhjaaDoorShelf
import Derived.Test.YtoffhlbdfhhhjaaDoorQLx2
import Derived.Test.YtoffhlbdfhhhjaaDoorQLx3
import Derived.Test.YtoffhlbdfhhhjaaDoorQLx4
import Derived.StillTailTactics
import Derived.Laws.EntriesVeiled
namespace Go.Proofs.YtoffhlbdfhhhjaaDoor.Fr
open Go Go.RowKit Go.Proofs.YtoffhlbdfhhhjaaDoorW.PrintWords Go.Proofs.YtoffhlbdfhhhjaaDoorW.PrintLast Go.Proofs.YtoffhlbdfhhhjaaDoorW.PrintMore Go.Proofs.YtoffhlbdfhhhjaaDoor.QL
set_option linter.unusedSimpArgs false
set_option linter.unusedVariables false
set_option maxHeartbeats 4000000
set_option maxRecDepth 100000
/-- A number's last n bytes, the highest first. -/
def be : Nat → Int → List UInt8
  | 0, _ => []
  | n + 1, v => UInt8.ofNat (v / (256 : Int) ^ n % 256).toNat :: be n v
theorem be_length (n : Nat) (v : Int) : (be n v).length = n := by
  induction n with
  | zero => rfl
  | succ n ih => simp [be, ih]
theorem byte_val (x : Int) : ((UInt8.ofNat (x % 256).toNat).toNat : Int) = x % 256 := by
  rw [UInt8.toNat_ofNat']
  omega
/-- A builder of a call's own, above B, that holds l (it may have been read). -/
abbrev Bd (B b : Nat) (l : List UInt8) (w : World) : Prop := Lib.IsBuilderF 84 5 B b (Lib.byteCells l) w
/-- What a writer into the builder at b leaves as it was: what lies below B, and all that is neither the builder nor bytes. -/
def Wr (B b : Nat) (w w' : World) : Prop := Below B w w' ∧ Lib.OthersKept 5 (some b) w w'
theorem Wr.refl (B b : Nat) (w : World) : Wr B b w w := ⟨Below.refl _ _, Lib.OthersKept.refl _ _ _⟩
theorem Wr.trans {B b : Nat} {w w1 w2 : World} (h : Wr B b w w1) (k : Wr B b w1 w2) : Wr B b w w2 := ⟨h.1.trans k.1, h.2.trans k.2⟩
theorem Wr.size {B b : Nat} {w w1 : World} (h : Wr B b w w1) : w.heap.size ≤ w1.heap.size := h.1.size
theorem below_lo {B B' : Nat} {w w' : World} (h : Below B w w') (hb : B' ≤ B) : Below B' w w' := ⟨h.os, h.tape, h.output, h.size, fun k hk => h.block k (by omega)⟩
theorem Wr.alloc {B b : Nat} {w w1 : World} (h : Wr B b w w1) (hB : B ≤ w1.heap.size) (o : Obj) : Wr B b w (w1.alloc o) := ⟨below_then h.1 hB (below_alloc (Below.refl _ _) o), h.2.alloc o⟩
/-- A block of another type stays. -/
theorem Wr.blk {B b g t : Nat} {w w1 : World} {cs : Array Value} (h : Wr B b w w1) (hg : w.heap[g]? = some (.cells cs t (0, 0))) (ht : t ≠ 5) (hne : g ≠ b) : w1.heap[g]? = some (.cells cs t (0, 0)) :=
  h.2 g _ hg (by simpa using hne) (by intro c fz he; injection he with _ h1; exact ht h1)
theorem Bd.lt {B b : Nat} {l : List UInt8} {w : World} (h : Bd B b l w) : b < w.heap.size := h.elim (fun x => x.lt) (fun x => x.lt)
theorem Bd.ge {B b : Nat} {l : List UInt8} {w : World} (h : Bd B b l w) : B ≤ b := h.elim (fun x => x.1) (fun x => x.1)
theorem Bd.blk {B b : Nat} {l : List UInt8} {w : World} (h : Bd B b l w) : ∃ cs, w.heap[b]? = some (.cells cs 84 (0, 0)) := by
  rcases h with ⟨_, v, hb, _⟩ | ⟨_, v, hb, _⟩
  · exact ⟨_, hb⟩
  · exact ⟨_, hb⟩
theorem Bd.ne {B b g t : Nat} {l : List UInt8} {w : World} {cs : Array Value} (h : Bd B b l w) (hg : w.heap[g]? = some (.cells cs t (0, 0))) (ht : t ≠ 84) : g ≠ b := by
  rintro rfl
  obtain ⟨c2, h2⟩ := h.blk
  rw [hg] at h2
  injection h2 with h2
  injection h2 with _ h3
  exact ht h3
theorem Bd.alloc {B b : Nat} {l : List UInt8} {w : World} (h : Bd B b l w) (o : Obj) : Bd B b l (w.alloc o) := h.elim (fun x => .inl (x.alloc o)) (fun x => .inr (x.alloc o))
theorem Bd.below {B b : Nat} {l : List UInt8} {w w1 : World} (h : Bd B b l w) (hb : Below w.heap.size w w1) : Bd B b l w1 := by
  have f : ∀ p, Lib.BuilderAtF 84 5 B b p (Lib.byteCells l) w → Lib.BuilderAtF 84 5 B b p (Lib.byteCells l) w1 := by
    rintro p ⟨hB, v, hc, hown, hne⟩
    refine ⟨hB, v, blk_below hc hb, hown.kept (grown_of_below hb none) ?_, hne⟩
    cases hv : v.ownBlock <;> simp
  exact h.elim (fun x => .inl (f _ x)) (fun x => .inr (f _ x))
theorem Bd.new (w : World) : Bd w.heap.size w.heap.size [] (w.alloc (.cells #[.pointer none, .slice none 0 0] 84)) :=
  .inl ⟨Nat.le_refl _, _, blk_new w _, World.ownsRowF_nil _ _ _ _, by simp [Value.ownBlock]⟩
theorem byte_calls (B b : Nat) (l : List UInt8) (x : UInt8) (c : Int) (w : World) (h : Bd B b l w) (hx : c = (x.toNat : Int)) (hlen : l.length + 1 ≤ 140737488355328) (hBw : B ≤ w.heap.size) :
    Calls Tryd.prog 72 #[.pointer (some ⟨b, 0, none⟩), .int .u8 c] w fun e w' => e = .returned .nilIface ∧ Bd B b (l ++ [x]) w' ∧ Wr B b w w' := by
  subst hx
  refine (Tryd.Builder_WriteByte_k B b (Lib.byteCells l) (x.toNat : Int) w h (by rw [Lib.byteCells_length]; exact hlen) hBw).mono ?_
  rintro e w' ⟨rfl, h1, h2, h3⟩
  refine ⟨rfl, .inr ?_, h2, h3⟩
  rw [Lib.byteCells_append]
  exact h1
theorem text_calls (B b : Nat) (l : List UInt8) (s : ByteArray) (w : World) (h : Bd B b l w) (hlen : l.length + s.size ≤ 140737488355328) (hBw : B ≤ w.heap.size) :
    Calls Tryd.prog 49 #[.pointer (some ⟨b, 0, none⟩), .string s] w fun e w' => e = .returned (.tuple #[.int .i64 s.size, .nilIface]) ∧ Bd B b (l ++ s.data.toList) w' ∧ Wr B b w w' := by
  refine (Tryd.Builder_WriteString_k B b (Lib.byteCells l) s w h (by rw [Lib.byteCells_length]; exact hlen) hBw).mono ?_
  rintro e w' ⟨rfl, h1, h2, h3⟩
  refine ⟨rfl, .inr ?_, h2, h3⟩
  rw [Lib.byteCells_append, ← Lib.strCells_eq]
  exact h1
theorem len_calls (B b : Nat) (l : List UInt8) (w : World) (h : Bd B b l w) :
    Calls Tryd.prog 51 #[.pointer (some ⟨b, 0, none⟩)] w fun e w' => e = .returned (.int .i64 l.length) ∧ w' = w := by
  refine (Tryd.Builder_Len_f B b (Lib.byteCells l) w h).mono ?_
  rintro e w' ⟨rfl, rfl⟩
  exact ⟨by rw [Lib.byteCells_length], rfl⟩
theorem string_calls (B b : Nat) (l : List UInt8) (w : World) (h : Bd B b l w) (hBw : B ≤ w.heap.size) :
    Calls Tryd.prog 52 #[.pointer (some ⟨b, 0, none⟩)] w fun e w' => e = .returned (.string ⟨l.toArray⟩) ∧ Bd B b l w' ∧ Wr B b w w' := by
  refine (Tryd.Builder_String_any_k B b l w h hBw).mono ?_
  rintro e w' ⟨rfl, h1, h2, h3⟩
  exact ⟨rfl, h1, h2, h3⟩
theorem put_calls (B b : Nat) (l : List UInt8) (v : Int) (n : Nat) (w : World) (h : Bd B b l w) (hn : n ≤ 4) (hlen : l.length + 8 ≤ 140737488355328) (hBw : B ≤ w.heap.size) :
    Calls Tryd.prog 47 #[.pointer (some ⟨b, 0, none⟩), .int .i64 v, .int .i64 n] w fun e w' => e = .returned (.tuple #[]) ∧ Bd B b (l ++ be n v) w' ∧ Wr B b w w' := by
  have H := Aside0.mk h
  have HBW := Aside0.mk hBw
  have HL := Aside0.mk hlen
  clear h hBw hlen
  go_enter Tryd.func47, Tryd.ntmps47
  go_wp2_with fail
  go_loopw [6] (fun i w' => ∃ (m : Nat) (k : List UInt8), m ≤ n ∧ i = .int .i64 ((m : Int) - 1) ∧ Aside0 (Bd B b k w') ∧ Aside0 (k ++ be m v = l ++ be n v) ∧ Aside0 (k.length + m = l.length + n) ∧ Aside0 (Wr B b w w')) (fun i _ => ((intOf i) + 1).toNat)
  case atStart => exact ⟨n, l, Nat.le_refl _, rfl, H, ⟨rfl⟩, ⟨rfl⟩, ⟨Wr.refl _ _ _⟩⟩
  case round =>
    obtain ⟨m, k, hm, rfl, HK, HE, HN, HB⟩ := hrel
    obtain rfl | hm0 : m = 0 ∨ 1 ≤ m := by omega
    · go_wp2_with fail
      go_end0
      refine ⟨rfl, ?_, HB.out⟩
      have e := HE.out
      rw [show be 0 v = [] from rfl, List.append_nil] at e
      rw [← e]
      exact HK.out
    · obtain rfl | rfl | rfl | rfl : m = 1 ∨ m = 2 ∨ m = 3 ∨ m = 4 := by omega
      all_goals
        have hb : B ≤ wr.heap.size := Nat.le_trans HBW.out HB.out.size
        have HBR := Aside0.mk hb
        clear hb
        go_wp2_with (go_at_call 72; refine (byte_calls B b k _ _ _ HK.out (byte_val _).symm (by have := HN.out; have := HL.out; omega) HBR.out).mono ?_; rintro e w8 ⟨rfl, h1, h2⟩; have HK8 := Aside0.mk h1; have HB8 := Aside0.mk (HB.out.trans h2); clear h1 h2)
        go_roundw
        case rel => first
          | exact ⟨0, _, by omega, rfl, HK8, ⟨by rw [← HE.out]; simp [be]⟩, ⟨by rw [← HN.out]; simp⟩, HB8⟩
          | exact ⟨1, _, by omega, rfl, HK8, ⟨by rw [← HE.out]; simp [be]⟩, ⟨by rw [← HN.out]; simp⟩, HB8⟩
          | exact ⟨2, _, by omega, rfl, HK8, ⟨by rw [← HE.out]; simp [be]⟩, ⟨by rw [← HN.out]; simp⟩, HB8⟩
          | exact ⟨3, _, by omega, rfl, HK8, ⟨by rw [← HE.out]; simp [be]⟩, ⟨by rw [← HN.out]; simp⟩, HB8⟩
        case measure => simp [intOf]
end Go.Proofs.YtoffhlbdfhhhjaaDoor.Fr
namespace Go.Proofs.YtoffhlbdfhhhjaaDoor.Fr
open Go Go.RowKit Go.Proofs.YtoffhlbdfhhhjaaDoorW.PrintWords Go.Proofs.YtoffhlbdfhhhjaaDoorW.PrintLast Go.Proofs.YtoffhlbdfhhhjaaDoorW.PrintMore Go.Proofs.YtoffhlbdfhhhjaaDoor.QL
set_option linter.unusedSimpArgs false
set_option linter.unusedVariables false
set_option maxHeartbeats 4000000
set_option maxRecDepth 100000
/-- A frame. -/
structure Fr where
  ty : Int
  fl : Int
  st : Int
  da : ByteArray
  pad : Int
  dep : Int
  ex : Bool
  wt : Int
  co : Int
  la : Int
  ps : List S32
def Fr.cells (f : Fr) (A : Option Addr) (c : Nat) : Array Value := #[.int .i64 f.ty, .int .i64 f.fl, .int .i64 f.st, .string f.da, .int .i64 f.pad, .int .i64 f.dep, .bool f.ex, .int .i64 f.wt, .int .i64 f.co, .int .i64 f.la, .slice A f.ps.length c]
def Fr.zero : Fr := ⟨0, 0, 0, ByteArray.empty, 0, 0, false, 0, 0, 0, []⟩
/-- A frame lies in block g of w. -/
def At (w : World) (g : Nat) (f : Fr) (A : Option Addr) (c : Nat) : Prop := w.heap[g]? = some (.cells (f.cells A c) 24 (0, 0))
theorem At.below {w w1 : World} {g : Nat} {f : Fr} {A : Option Addr} {c B : Nat} (h : At w g f A c) (hg : g < B) (hb : Below B w w1) : At w1 g f A c := (hb.block g hg).trans h
theorem At.wr {w w1 : World} {g B b : Nat} {f : Fr} {A : Option Addr} {c : Nat} (h : At w g f A c) (hg : g ≠ b) (hb : Wr B b w w1) : At w1 g f A c := hb.blk h (by decide) hg
theorem At.c0 {w : World} {g : Nat} {f : Fr} {A : Option Addr} {c : Nat} (h : At w g f A c) : w.cell? ⟨g, 0, none⟩ = some (.int .i64 f.ty) := blk_cell h 0
theorem At.c1 {w : World} {g : Nat} {f : Fr} {A : Option Addr} {c : Nat} (h : At w g f A c) : w.cell? ⟨g, 1, none⟩ = some (.int .i64 f.fl) := blk_cell h 1
theorem At.c2 {w : World} {g : Nat} {f : Fr} {A : Option Addr} {c : Nat} (h : At w g f A c) : w.cell? ⟨g, 2, none⟩ = some (.int .i64 f.st) := blk_cell h 2
theorem At.c3 {w : World} {g : Nat} {f : Fr} {A : Option Addr} {c : Nat} (h : At w g f A c) : w.cell? ⟨g, 3, none⟩ = some (.string f.da) := blk_cell h 3
theorem At.c4 {w : World} {g : Nat} {f : Fr} {A : Option Addr} {c : Nat} (h : At w g f A c) : w.cell? ⟨g, 4, none⟩ = some (.int .i64 f.pad) := blk_cell h 4
theorem At.c5 {w : World} {g : Nat} {f : Fr} {A : Option Addr} {c : Nat} (h : At w g f A c) : w.cell? ⟨g, 5, none⟩ = some (.int .i64 f.dep) := blk_cell h 5
theorem At.c6 {w : World} {g : Nat} {f : Fr} {A : Option Addr} {c : Nat} (h : At w g f A c) : w.cell? ⟨g, 6, none⟩ = some (.bool f.ex) := blk_cell h 6
theorem At.c7 {w : World} {g : Nat} {f : Fr} {A : Option Addr} {c : Nat} (h : At w g f A c) : w.cell? ⟨g, 7, none⟩ = some (.int .i64 f.wt) := blk_cell h 7
theorem At.c8 {w : World} {g : Nat} {f : Fr} {A : Option Addr} {c : Nat} (h : At w g f A c) : w.cell? ⟨g, 8, none⟩ = some (.int .i64 f.co) := blk_cell h 8
theorem At.c9 {w : World} {g : Nat} {f : Fr} {A : Option Addr} {c : Nat} (h : At w g f A c) : w.cell? ⟨g, 9, none⟩ = some (.int .i64 f.la) := blk_cell h 9
theorem At.c10 {w : World} {g : Nat} {f : Fr} {A : Option Addr} {c : Nat} (h : At w g f A c) : w.cell? ⟨g, 10, none⟩ = some (.slice A f.ps.length c) := blk_cell h 10
/-- What a lay does: the bytes x go behind l. -/
def Lays (n B b g : Nat) (l x : List UInt8) (w : World) : Prop := Calls Tryd.prog n #[.pointer (some ⟨b, 0, none⟩), .pointer (some ⟨g, 0, none⟩)] w fun e w' => e = .returned (.tuple #[]) ∧ Bd B b (l ++ x) w' ∧ Wr B b w w'
theorem put_n (k B b : Nat) (l : List UInt8) (v : Int) (i : Int) (w : World) (h : Bd B b l w) (hi : i = (k : Int)) (hn : k ≤ 4) (hlen : l.length + 8 ≤ 140737488355328) (hBw : B ≤ w.heap.size) :
    Calls Tryd.prog 47 #[.pointer (some ⟨b, 0, none⟩), .int .i64 v, .int .i64 i] w fun e w' => e = .returned (.tuple #[]) ∧ Bd B b (l ++ be k v) w' ∧ Wr B b w w' := by
  subst hi
  exact put_calls B b l v k w h hn hlen hBw
theorem layData_calls (B b g : Nat) (l : List UInt8) (f : Fr) (A : Option Addr) (c : Nat) (w : World) (h : Bd B b l w) (hf : At w g f A c) (hlen : l.length + f.da.size ≤ 140737488355328) (hBw : B ≤ w.heap.size) : Lays 83 B b g l f.da.data.toList w := by
  have z3 := hf.c3
  have H := Aside0.mk h
  have HBW := Aside0.mk hBw
  have HL := Aside0.mk hlen
  clear h hf hBw hlen
  unfold Lays
  go_enter Tryd.func83, Tryd.ntmps83
  go_wp2_with (go_at_call 49; refine (text_calls B b l f.da _ H.out HL.out HBW.out).mono ?_; rintro e w8 ⟨rfl, h1, h2⟩; have H1 := Aside0.mk h1; have H2 := Aside0.mk h2; clear h1 h2)
  go_end0
  exact ⟨rfl, H1.out, H2.out⟩
theorem layReset_calls (B b g : Nat) (l : List UInt8) (f : Fr) (A : Option Addr) (c : Nat) (w : World) (h : Bd B b l w) (hf : At w g f A c) (hlen : l.length + 8 ≤ 140737488355328) (hBw : B ≤ w.heap.size) : Lays 77 B b g l (be 4 f.co) w := by
  have z3 := hf.c8
  have H := Aside0.mk h
  have HBW := Aside0.mk hBw
  have HL := Aside0.mk hlen
  clear h hf hBw hlen
  unfold Lays
  go_enter Tryd.func77, Tryd.ntmps77
  go_wp2_with (go_at_call 47; refine (put_n 4 B b l f.co _ _ H.out rfl (by decide) HL.out HBW.out).mono ?_; rintro e w8 ⟨rfl, h1, h2⟩; have H1 := Aside0.mk h1; have H2 := Aside0.mk h2; clear h1 h2)
  go_end0
  exact ⟨rfl, H1.out, H2.out⟩
theorem layWindow_calls (B b g : Nat) (l : List UInt8) (f : Fr) (A : Option Addr) (c : Nat) (w : World) (h : Bd B b l w) (hf : At w g f A c) (hlen : l.length + 8 ≤ 140737488355328) (hBw : B ≤ w.heap.size) : Lays 87 B b g l (be 4 f.la) w := by
  have z3 := hf.c9
  have H := Aside0.mk h
  have HBW := Aside0.mk hBw
  have HL := Aside0.mk hlen
  clear h hf hBw hlen
  unfold Lays
  go_enter Tryd.func87, Tryd.ntmps87
  go_wp2_with (go_at_call 47; refine (put_n 4 B b l f.la _ _ H.out rfl (by decide) HL.out HBW.out).mono ?_; rintro e w8 ⟨rfl, h1, h2⟩; have H1 := Aside0.mk h1; have H2 := Aside0.mk h2; clear h1 h2)
  go_end0
  exact ⟨rfl, H1.out, H2.out⟩
theorem layPromise_calls (B b g : Nat) (l : List UInt8) (f : Fr) (A : Option Addr) (c : Nat) (w : World) (h : Bd B b l w) (hf : At w g f A c) (hg : g ≠ b) (hlen : l.length + f.da.size + 16 ≤ 140737488355328) (hBw : B ≤ w.heap.size) : Lays 81 B b g l (be 4 f.la ++ f.da.data.toList) w := by
  have z9 := hf.c9
  have HF := Aside0.mk hf
  have HG := Aside0.mk hg
  have H := Aside0.mk h
  have HBW := Aside0.mk hBw
  have HL := Aside0.mk hlen
  clear h hf hBw hlen hg
  unfold Lays
  go_enter Tryd.func81, Tryd.ntmps81
  go_wp2_with (first
    | (go_at_call 47; refine (put_n 4 B b l f.la _ _ H.out rfl (by decide) (by have := HL.out; omega) HBW.out).mono ?_; rintro e w8 ⟨rfl, h1, h2⟩; have z3 := (HF.out.wr HG.out h2).c3; have H1 := Aside0.mk h1; have H2 := Aside0.mk h2; clear h1 h2)
    | (go_at_call 49; refine (text_calls B b _ f.da _ H1.out (by rw [List.length_append, be_length]; have := HL.out; omega) (Nat.le_trans HBW.out H2.out.size)).mono ?_; rintro e w9 ⟨rfl, h1, h2⟩; have H3 := Aside0.mk h1; have H4 := Aside0.mk (H2.out.trans h2); clear h1 h2))
  go_end0
  exact ⟨rfl, by rw [← List.append_assoc]; exact H3.out, H4.out⟩
theorem layGoAway_calls (B b g : Nat) (l : List UInt8) (f : Fr) (A : Option Addr) (c : Nat) (w : World) (h : Bd B b l w) (hf : At w g f A c) (hg : g ≠ b) (hlen : l.length + f.da.size + 16 ≤ 140737488355328) (hBw : B ≤ w.heap.size) : Lays 85 B b g l (be 4 f.la ++ be 4 f.co ++ f.da.data.toList) w := by
  have z9 := hf.c9
  have HF := Aside0.mk hf
  have HG := Aside0.mk hg
  have H := Aside0.mk h
  have HBW := Aside0.mk hBw
  have HL := Aside0.mk hlen
  clear h hf hBw hlen hg
  unfold Lays
  go_enter Tryd.func85, Tryd.ntmps85
  go_upto_region 1 with (go_at_call 47; refine (put_n 4 B b l f.la _ _ H.out rfl (by decide) (by have := HL.out; omega) HBW.out).mono ?_; rintro e w8 ⟨rfl, h1, h2⟩; have H1 := Aside0.mk h1; have H2 := Aside0.mk h2; clear h1 h2)
  have z8 := (HF.out.wr HG.out H2.out).c8
  go_wp2_with (first
    | (go_at_call 47; refine (put_n 4 B b _ f.co _ _ H1.out rfl (by decide) (by rw [List.length_append, be_length]; have := HL.out; omega) (Nat.le_trans HBW.out H2.out.size)).mono ?_; rintro e w9 ⟨rfl, h1, h2⟩; have z3 := (HF.out.wr HG.out (H2.out.trans h2)).c3; have H3 := Aside0.mk h1; have H4 := Aside0.mk (H2.out.trans h2); clear h1 h2)
    | (go_at_call 49; refine (text_calls B b _ f.da _ H3.out (by rw [List.length_append, List.length_append, be_length, be_length]; have := HL.out; omega) (Nat.le_trans HBW.out H4.out.size)).mono ?_; rintro e w9 ⟨rfl, h1, h2⟩; have H5 := Aside0.mk h1; have H6 := Aside0.mk (H4.out.trans h2); clear h1 h2))
  go_end0
  exact ⟨rfl, by rw [← List.append_assoc, ← List.append_assoc]; exact H5.out, H6.out⟩
/-- The five bytes of a priority. -/
def weight (f : Fr) : List UInt8 := be 4 (f.dep + if f.ex = true then 2147483648 else 0) ++ be 1 (f.wt - 1)
theorem or_top (d : Int) (h0 : 0 ≤ d) (h1 : d ≤ 2147483647) : Go.bits .or .i64 d 2147483648 = d + 2147483648 := by
  have hc : Go.bits .or .i64 d 2147483648 = Go.bits .or .i64 2147483648 d := by
    unfold Go.bits
    simp only [BitVec.or_comm]
  rw [hc, bits_join .i64 63 (by decide) (fun n a b => IntWalk.i64_in n (by omega)) 31 2147483648 d (by decide) (by decide) (by decide) h0 (by omega) (by omega)]
  omega
theorem layWeight_calls (B b g : Nat) (l : List UInt8) (f : Fr) (A : Option Addr) (c : Nat) (w : World) (h : Bd B b l w) (hf : At w g f A c) (hg : g ≠ b) (h0 : 0 ≤ f.dep) (h1 : f.dep ≤ 2147483647) (hw0 : 1 ≤ f.wt) (hw1 : f.wt ≤ 256) (hlen : l.length + 16 ≤ 140737488355328) (hBw : B ≤ w.heap.size) : Lays 75 B b g l (weight f) w := by
  have z5 := hf.c5
  have z6 := hf.c6
  have hor := or_top f.dep h0 h1
  have HF := Aside0.mk hf
  have HG := Aside0.mk hg
  have H := Aside0.mk h
  have HBW := Aside0.mk hBw
  have HL := Aside0.mk hlen
  clear h hf hBw hlen hg
  obtain ⟨x, hx⟩ : ∃ x, f.ex = x := ⟨_, rfl⟩
  have HW : Aside0 (weight f = be 4 (f.dep + if x = true then 2147483648 else 0) ++ be 1 (f.wt - 1)) := ⟨by rw [← hx]; rfl⟩
  rw [hx] at z6
  clear hx
  unfold Lays
  cases x
  all_goals
    go_enter Tryd.func75, Tryd.ntmps75
    go_upto_region 4 with (go_at_call 47; refine (put_n 4 B b l _ _ _ H.out rfl (by decide) (by have := HL.out; omega) HBW.out).mono ?_; rintro e w8 ⟨rfl, h1, h2⟩; have H1 := Aside0.mk h1; have H2 := Aside0.mk h2; clear h1 h2)
    have z7 := (HF.out.wr HG.out H2.out).c7
    go_wp2_with (first
      | (go_at_call 47; refine (put_n 1 B b _ _ _ _ H1.out rfl (by decide) (by rw [List.length_append, be_length]; have := HL.out; omega) (Nat.le_trans HBW.out H2.out.size)).mono ?_; rintro e w9 ⟨rfl, h1, h2⟩; have H3 := Aside0.mk h1; have H4 := Aside0.mk (H2.out.trans h2); clear h1 h2))
    go_end0
    exact ⟨rfl, by rw [HW.out, ← List.append_assoc]; simpa using H3.out, H4.out⟩
end Go.Proofs.YtoffhlbdfhhhjaaDoor.Fr
namespace Go.Proofs.YtoffhlbdfhhhjaaDoor.Fr
open Go Go.RowKit Go.Proofs.YtoffhlbdfhhhjaaDoorW.PrintWords Go.Proofs.YtoffhlbdfhhhjaaDoorW.PrintLast Go.Proofs.YtoffhlbdfhhhjaaDoorW.PrintMore Go.Proofs.YtoffhlbdfhhhjaaDoor.QL
set_option linter.unusedSimpArgs false
set_option linter.unusedVariables false
set_option maxHeartbeats 4000000
set_option maxRecDepth 100000
/-- Is the flag set? -/
def has (fl m : Int) : Bool := Go.bits .and .i64 fl m != 0
theorem weight_length (f : Fr) : (weight f).length = 5 := by simp [weight, be_length]
theorem layHeaders_calls (B b g : Nat) (l : List UInt8) (f : Fr) (A : Option Addr) (c : Nat) (w : World) (h : Bd B b l w) (hf : At w g f A c) (hg : g ≠ b) (hp : has f.fl 32 = true → 0 ≤ f.dep ∧ f.dep ≤ 2147483647 ∧ 1 ≤ f.wt ∧ f.wt ≤ 256) (hlen : l.length + f.da.size + 16 ≤ 140737488355328) (hBw : B ≤ w.heap.size) :
    Lays 73 B b g l ((if has f.fl 32 = true then weight f else []) ++ f.da.data.toList) w := by
  have z1 := hf.c1
  have z3 := hf.c3
  have HF := Aside0.mk hf
  have HG := Aside0.mk hg
  have H := Aside0.mk h
  have HBW := Aside0.mk hBw
  have HL := Aside0.mk hlen
  have HP := Aside0.mk hp
  clear h hf hBw hlen hg hp
  cases hx : has f.fl 32
  · have hx' : (Go.bits .and .i64 f.fl 32 != 0) = false := hx
    clear hx
    unfold Lays
    go_enter Tryd.func73, Tryd.ntmps73
    go_wp2_with (go_at_call 49; refine (text_calls B b l f.da _ H.out (by have := HL.out; omega) HBW.out).mono ?_; rintro e w8 ⟨rfl, h1, h2⟩; have H1 := Aside0.mk h1; have H2 := Aside0.mk h2; clear h1 h2)
    go_end0
    exact ⟨rfl, by simpa using H1.out, H2.out⟩
  · have hx' : (Go.bits .and .i64 f.fl 32 != 0) = true := hx
    have HP2 := Aside0.mk (HP.out hx)
    clear hx
    unfold Lays
    go_enter Tryd.func73, Tryd.ntmps73
    go_wp2_with (first
      | (go_at_call 75; refine (layWeight_calls B b g l f A c _ H.out HF.out HG.out HP2.out.1 HP2.out.2.1 HP2.out.2.2.1 HP2.out.2.2.2 (by have := HL.out; omega) HBW.out).mono ?_; rintro e w7 ⟨rfl, h1, h2⟩; have z3 := (HF.out.wr HG.out h2).c3; have H1 := Aside0.mk h1; have H2 := Aside0.mk h2; clear h1 h2)
      | (go_at_call 49; refine (text_calls B b _ f.da _ H1.out (by rw [List.length_append, weight_length]; have := HL.out; omega) (Nat.le_trans HBW.out H2.out.size)).mono ?_; rintro e w8 ⟨rfl, h1, h2⟩; have H3 := Aside0.mk h1; have H4 := Aside0.mk (H2.out.trans h2); clear h1 h2))
    go_end0
    exact ⟨rfl, by simpa using H3.out, H4.out⟩
/-- Params as bytes. -/
def params (ps : List S32) : List UInt8 := ps.flatMap fun p => be 2 p.f0 ++ be 4 p.f1
theorem params_length (ps : List S32) : (params ps).length = 6 * ps.length := by
  induction ps with
  | nil => rfl
  | cons p t ih => simp only [params, List.flatMap_cons, List.length_append, be_length, List.length_cons] at *; omega
theorem params_take (ps : List S32) (k : Nat) (h : k < ps.length) : params (ps.take (k + 1)) = params (ps.take k) ++ be 2 (rd_T32 ps (k : Int)).f0 ++ be 4 (rd_T32 ps (k : Int)).f1 := by
  have e : rd_T32 ps (k : Int) = ps[k] := by simp [rd_T32, h]
  unfold params
  rw [List.take_succ_eq_append_getElem h, e, List.flatMap_append]
  simp only [List.flatMap_cons, List.flatMap_nil, List.append_nil, List.append_assoc]
theorem layParams_calls (B b g : Nat) (l : List UInt8) (f : Fr) (A : Option Addr) (c : Nat) (w0 w : World) (h : Bd B b l w) (hf : At w g f A c) (hg : g ≠ b) (hC : Kd.C k32 w0 A f.ps.length f.ps) (hlow : Below w0.heap.size w0 w) (hB0 : w0.heap.size ≤ B) (hlen : l.length + f.ps.length * 6 + 16 ≤ 140737488355328) (hBw : B ≤ w.heap.size) :
    Lays 79 B b g l (params f.ps) w := by
  have z10 := hf.c10
  have HF := Aside0.mk hf
  have HG := Aside0.mk hg
  have H := Aside0.mk h
  have HBW := Aside0.mk hBw
  have HL := Aside0.mk hlen
  have HC := Aside0.mk hC
  have HLOW := Aside0.mk hlow
  have HB0 := Aside0.mk hB0
  have hl63 : f.ps.length ≤ 9223372036854775807 := hC.2.1
  clear h hf hBw hlen hg hC hlow hB0
  obtain ⟨ps, hps⟩ : ∃ ps, f.ps = ps := ⟨_, rfl⟩
  rw [hps] at z10 HL HC hl63 ⊢
  clear hps
  unfold Lays
  go_enter Tryd.func79, Tryd.ntmps79
  go_wp2_with fail
  go_loopw [11] (fun i w' => ∃ (k : Nat), k ≤ ps.length ∧ i = .int .i64 k ∧ Aside0 (Bd B b (l ++ params (ps.take k)) w') ∧ Aside0 (Wr B b w w')) (fun i _ => ps.length - (intOf i).toNat)
  case atStart => exact ⟨0, Nat.zero_le _, rfl, ⟨by simpa [params] using H.out⟩, ⟨Wr.refl _ _ _⟩⟩
  case round =>
    obtain ⟨k, hk, rfl, HK, HB⟩ := hrel
    by_cases hlt : k < ps.length
    · have p0 : (0 : Int) ≤ k := by omega
      have q0 : (k : Int) < (ps.length : Int) := by omega
      have hst := params_take ps k hlt
      obtain ⟨ad, e0, y0, y1⟩ := at_T32 (Kd.C_below HC.out (HLOW.out.trans (below_lo HB.out.1 HB0.out))) k p0 q0
      cases e0
      obtain ⟨id, hid⟩ : ∃ K, (rd_T32 ps (k : Int)).f0 = K := ⟨_, rfl⟩
      obtain ⟨x, hx⟩ : ∃ K, (rd_T32 ps (k : Int)).f1 = K := ⟨_, rfl⟩
      simp only [Int.toNat_natCast] at y0 y1
      rw [hid, hx] at hst
      rw [hid] at y0
      rw [hx] at y1
      have HST := Aside0.mk hst
      clear hid hx hst
      go_upto_region 3 with fail
      obtain ⟨W5, hW5⟩ : ∃ W, wr.alloc (.cells #[.int .i64 id, .int .i64 x] 32) = W := ⟨_, rfl⟩
      obtain ⟨b5, hb5⟩ : ∃ b, wr.heap.size = b := ⟨_, rfl⟩
      have X5 : Aside0 (W5.heap[b5]? = some (.cells #[.int .i64 id, .int .i64 x] 32 (0, 0))) := ⟨by rw [← hW5, ← hb5]; exact blk_new wr _⟩
      have K5 : Aside0 (Bd B b (l ++ params (ps.take k)) W5) := ⟨by rw [← hW5]; exact HK.out.alloc _⟩
      have L5 : Aside0 (Wr B b w W5) := ⟨by rw [← hW5]; exact HB.out.alloc (Nat.le_trans HBW.out HB.out.size) _⟩
      have N5 : Aside0 (b5 ≠ b) := ⟨by rw [← hb5]; have := HK.out.lt; omega⟩
      rw [hW5, hb5]
      clear hW5 hb5 y0 y1
      have x0 : W5.cell? ⟨b5, 0, none⟩ = some (.int .i64 id) := blk_cell X5.out 0
      have hbs := Nat.le_trans HBW.out L5.out.size
      have HBS := Aside0.mk hbs
      clear hbs
      go_upto_region 4 with (go_at_call 47; refine (put_n 2 B b _ id _ _ K5.out rfl (by decide) (by rw [List.length_append, params_length, List.length_take]; have := HL.out; omega) HBS.out).mono ?_; rintro e w8 ⟨rfl, h1, h2⟩; have H1 := Aside0.mk h1; have H2 := Aside0.mk (L5.out.trans h2); have X8 := Aside0.mk (h2.blk X5.out (by decide) N5.out); clear h1 h2)
      clear x0
      have x1 : w8.cell? ⟨b5, 1, none⟩ = some (.int .i64 x) := blk_cell X8.out 1
      go_wp2_with (go_at_call 47; refine (put_n 4 B b _ x _ _ H1.out rfl (by decide) (by rw [List.length_append, List.length_append, be_length, params_length, List.length_take]; have := HL.out; omega) (Nat.le_trans HBW.out H2.out.size)).mono ?_; rintro e w9 ⟨rfl, h1, h2⟩; have H3 := Aside0.mk h1; have H4 := Aside0.mk (H2.out.trans h2); clear h1 h2)
      go_roundw
      case rel => exact ⟨k + 1, by omega, by go_num, ⟨by rw [HST.out, ← List.append_assoc, ← List.append_assoc]; exact H3.out⟩, H4⟩
      case measure => simp [intOf]; omega
    · have hlt2 : decide ((k : Int) < (ps.length : Int)) = false := decide_eq_false (by omega)
      go_wp2_with fail
      go_end0
      refine ⟨rfl, ?_, HB.out⟩
      have e := HK.out
      rw [List.take_of_length_le (by omega)] at e
      exact e
end Go.Proofs.YtoffhlbdfhhhjaaDoor.Fr
namespace Go.Proofs.YtoffhlbdfhhhjaaDoor.Fr
open Go Go.RowKit Go.Proofs.YtoffhlbdfhhhjaaDoorW.PrintWords Go.Proofs.YtoffhlbdfhhhjaaDoorW.PrintLast Go.Proofs.YtoffhlbdfhhhjaaDoorW.PrintMore Go.Proofs.YtoffhlbdfhhhjaaDoor.QL
set_option linter.unusedSimpArgs false
set_option linter.unusedVariables false
set_option maxHeartbeats 4000000
set_option maxRecDepth 100000
/-- The table's numbers: a type's flags, and where it may stand. -/
def kTab : List Int := [9, 0, 45, 0, 0, 0, 0, 0, 1, 1, 12, 0, 1, 1, 0, 1, 0, 2, 4, 0]
/-- The package's variable holds what the program lays. -/
def GL (w : World) : Prop := ∀ (i : Nat) (n : Int), kTab[i]? = some n → w.cell? ⟨0, i, none⟩ = some (.int .i64 n)
theorem GL.lt {w : World} (h : GL w) : 0 < w.heap.size := World.block_lt_of_cell? w ⟨0, 0, none⟩ (h 0 9 rfl)
theorem GL.to {B : Nat} {w w1 : World} (h : GL w) (hB : 0 < B) (hb : Below B w w1) : GL w1 := fun i n hi => (hb.cell (p := ⟨0, i, none⟩) hB).trans (h i n hi)
theorem GL.below {w w1 : World} (h : GL w) (hb : Below w.heap.size w w1) : GL w1 := h.to h.lt hb
/-- A type's flags. -/
def kFl (t : Int) : Int := if t < 10 then (if t = 0 then 9 else if t = 1 then 45 else if t = 4 then 1 else if t = 5 then 12 else if t = 6 then 1 else if t = 9 then 4 else 0) else 255
/-- Where a type may stand: 0 on a stream, 1 on none, 2 both. -/
def kSt (t : Int) : Int := if t < 10 then (if t = 4 then 1 else if t = 6 then 1 else if t = 7 then 1 else if t = 8 then 2 else 0) else 2
theorem kindOf_calls (t x y : Int) (w : World) (hG : GL w) (h0 : 0 ≤ t) (hx : kFl t = x) (hy : kSt t = y) : Calls Tryd.prog 58 #[.int .i64 t] w fun e w' => e = .returned (.agg #[.int .i64 x, .int .i64 y]) ∧ Below w.heap.size w w' := by
  have hlt := hG.lt
  have HB := Aside0.mk (Below.refl w.heap.size w)
  subst hx hy
  by_cases h10 : t < 10
  · obtain rfl | rfl | rfl | rfl | rfl | rfl | rfl | rfl | rfl | rfl : t = 0 ∨ t = 1 ∨ t = 2 ∨ t = 3 ∨ t = 4 ∨ t = 5 ∨ t = 6 ∨ t = 7 ∨ t = 8 ∨ t = 9 := by omega
    · have z0 := hG 0 9 rfl
      have z1 := hG 1 0 rfl
      clear hG
      go_enter Tryd.func58, Tryd.ntmps58
      go_wp2_with fail
      exact bodyPost_ret (v := .agg #[.int .i64 9, .int .i64 0]) (by simp [results, Tryd.results58, go_sem]) rfl ⟨rfl, below_alloc HB.out _⟩
    · have z0 := hG 2 45 rfl
      have z1 := hG 3 0 rfl
      clear hG
      go_enter Tryd.func58, Tryd.ntmps58
      go_wp2_with fail
      exact bodyPost_ret (v := .agg #[.int .i64 45, .int .i64 0]) (by simp [results, Tryd.results58, go_sem]) rfl ⟨rfl, below_alloc HB.out _⟩
    · have z0 := hG 4 0 rfl
      have z1 := hG 5 0 rfl
      clear hG
      go_enter Tryd.func58, Tryd.ntmps58
      go_wp2_with fail
      exact bodyPost_ret (v := .agg #[.int .i64 0, .int .i64 0]) (by simp [results, Tryd.results58, go_sem]) rfl ⟨rfl, below_alloc HB.out _⟩
    · have z0 := hG 6 0 rfl
      have z1 := hG 7 0 rfl
      clear hG
      go_enter Tryd.func58, Tryd.ntmps58
      go_wp2_with fail
      exact bodyPost_ret (v := .agg #[.int .i64 0, .int .i64 0]) (by simp [results, Tryd.results58, go_sem]) rfl ⟨rfl, below_alloc HB.out _⟩
    · have z0 := hG 8 1 rfl
      have z1 := hG 9 1 rfl
      clear hG
      go_enter Tryd.func58, Tryd.ntmps58
      go_wp2_with fail
      exact bodyPost_ret (v := .agg #[.int .i64 1, .int .i64 1]) (by simp [results, Tryd.results58, go_sem]) rfl ⟨rfl, below_alloc HB.out _⟩
    · have z0 := hG 10 12 rfl
      have z1 := hG 11 0 rfl
      clear hG
      go_enter Tryd.func58, Tryd.ntmps58
      go_wp2_with fail
      exact bodyPost_ret (v := .agg #[.int .i64 12, .int .i64 0]) (by simp [results, Tryd.results58, go_sem]) rfl ⟨rfl, below_alloc HB.out _⟩
    · have z0 := hG 12 1 rfl
      have z1 := hG 13 1 rfl
      clear hG
      go_enter Tryd.func58, Tryd.ntmps58
      go_wp2_with fail
      exact bodyPost_ret (v := .agg #[.int .i64 1, .int .i64 1]) (by simp [results, Tryd.results58, go_sem]) rfl ⟨rfl, below_alloc HB.out _⟩
    · have z0 := hG 14 0 rfl
      have z1 := hG 15 1 rfl
      clear hG
      go_enter Tryd.func58, Tryd.ntmps58
      go_wp2_with fail
      exact bodyPost_ret (v := .agg #[.int .i64 0, .int .i64 1]) (by simp [results, Tryd.results58, go_sem]) rfl ⟨rfl, below_alloc HB.out _⟩
    · have z0 := hG 16 0 rfl
      have z1 := hG 17 2 rfl
      clear hG
      go_enter Tryd.func58, Tryd.ntmps58
      go_wp2_with fail
      exact bodyPost_ret (v := .agg #[.int .i64 0, .int .i64 2]) (by simp [results, Tryd.results58, go_sem]) rfl ⟨rfl, below_alloc HB.out _⟩
    · have z0 := hG 18 4 rfl
      have z1 := hG 19 0 rfl
      clear hG
      go_enter Tryd.func58, Tryd.ntmps58
      go_wp2_with fail
      exact bodyPost_ret (v := .agg #[.int .i64 4, .int .i64 0]) (by simp [results, Tryd.results58, go_sem]) rfl ⟨rfl, below_alloc HB.out _⟩
  · have h10' : decide (t < 10) = false := decide_eq_false h10
    have e1 : kFl t = 255 := if_neg h10
    have e2 : kSt t = 2 := if_neg h10
    rw [e1, e2]
    clear hG
    go_enter Tryd.func58, Tryd.ntmps58
    go_wp2_with fail
    exact bodyPost_ret (v := .agg #[.int .i64 255, .int .i64 2]) (by simp [results, Tryd.results58, go_sem]) rfl ⟨rfl, below_alloc HB.out _⟩
theorem fld0 (x y : Int) (w : World) : (Instr.field 100 (.agg #[.int .i64 x, .int .i64 y]) 0).run Tryd.prog w = .ok (.int .i64 x) w := by kernel_rfl
theorem fld1 (x y : Int) (w : World) : (Instr.field 100 (.agg #[.int .i64 x, .int .i64 y]) 1).run Tryd.prog w = .ok (.int .i64 y) w := by kernel_rfl
/-- May a frame of the type stand there? -/
def stB (t st : Int) : Bool := if kSt t = 0 then st != 0 else if kSt t = 1 then st == 0 else true
theorem stands_calls (g : Nat) (f : Fr) (A : Option Addr) (c : Nat) (x : Bool) (w : World) (hf : At w g f A c) (hG : GL w) (h0 : 0 ≤ f.ty) (hx : stB f.ty f.st = x) : Calls Tryd.prog 59 #[.pointer (some ⟨g, 0, none⟩)] w fun e w' => e = .returned (.bool x) ∧ Below w.heap.size w w' := by
  have HF := Aside0.mk hf
  have HG := Aside0.mk hG
  have HX := Aside0.mk hx
  have H0 := Aside0.mk h0
  have z0 := hf.c0
  obtain ⟨y, hy⟩ : ∃ y, kSt f.ty = y := ⟨_, rfl⟩
  have HY := Aside0.mk hy
  clear hf hG hx h0 hy
  have hfl := fld1
  go_enter Tryd.func59, Tryd.ntmps59
  go_upto_block 0 with (go_at_call 58; refine (kindOf_calls f.ty _ y _ HG.out H0.out rfl HY.out).mono ?_; rintro e w5 ⟨rfl, hb⟩; have z2 := (HF.out.below (blk_lt HF.out) hb).c2; have HB := Aside0.mk hb; clear hb)
  have hst := HX.out
  unfold stB at hst
  rw [HY.out] at hst
  by_cases y0 : y = 0
  · subst y0
    have HST : Aside0 ((f.st != 0) = x) := ⟨by simpa using hst⟩
    clear hst
    go_wp2_with fail
    go_ret
    exact ⟨by rw [← HST.out]; rfl, HB.out⟩
  · have y0' : (y == 0) = false := beq_eq_false_iff_ne.mpr y0
    by_cases y1 : y = 1
    · subst y1
      have HST : Aside0 ((f.st == 0) = x) := ⟨by simpa using hst⟩
      clear hst
      go_wp2_with fail
      go_ret
      exact ⟨by rw [← HST.out]; rfl, HB.out⟩
    · have y1' : (y == 1) = false := beq_eq_false_iff_ne.mpr y1
      have HST : Aside0 (true = x) := ⟨by rw [if_neg y0, if_neg y1] at hst; exact hst⟩
      clear hst y0 y1
      go_wp2_with fail
      go_ret
      exact ⟨by rw [← HST.out]; rfl, HB.out⟩
/-- Is it padded? -/
def padB (f : Fr) : Bool := decide (f.ty < 10) && has f.fl 8
theorem padded_calls (g : Nat) (f : Fr) (A : Option Addr) (c : Nat) (x : Bool) (w : World) (hf : At w g f A c) (hx : padB f = x) : Calls Tryd.prog 46 #[.pointer (some ⟨g, 0, none⟩)] w fun e w' => e = .returned (.bool x) ∧ w = w' := by
  have z0 := hf.c0
  have z1 := hf.c1
  have HX := Aside0.mk hx
  clear hf hx
  by_cases h10 : f.ty < 10
  · have h10' : decide (f.ty < 10) = true := decide_eq_true h10
    have hst : has f.fl 8 = x := by have h := HX.out; unfold padB at h; rw [h10'] at h; simpa using h
    have HST : Aside0 ((Go.bits .and .i64 f.fl 8 != 0) = x) := ⟨hst⟩
    clear hst
    go_enter Tryd.func46, Tryd.ntmps46
    go_wp2_with fail
    go_ret
    exact ⟨by rw [← HST.out]; rfl, rfl⟩
  · have h10' : decide (f.ty < 10) = false := decide_eq_false h10
    have HST : Aside0 (false = x) := ⟨by have h := HX.out; unfold padB at h; rw [h10'] at h; simpa using h⟩
    clear h10
    go_enter Tryd.func46, Tryd.ntmps46
    go_wp2_with fail
    go_ret
    exact ⟨by rw [← HST.out]; rfl, rfl⟩
/-- Does a number lie in a range? -/
def inR (n a b : Int) : Bool := decide (a ≤ n) && decide (n ≤ b)
theorem within_calls (n a b : Int) (x : Bool) (w : World) (hx : inR n a b = x) : Calls Tryd.prog 71 #[.int .i64 n, .int .i64 a, .int .i64 b] w fun e w' => e = .returned (.bool x) ∧ Below w.heap.size w w' := by
  subst hx
  refine (frame_within.calls n a b (inR n a b) w ?_).mono (fun _ _ h => ⟨h.1, by first | exact h.2 | exact h.2.below⟩)
  unfold frame_within.f inR
  by_cases h : n ≥ a
  · rw [if_pos h]
    have h' : decide (a ≤ n) = true := decide_eq_true h
    rw [h']; rfl
  · rw [if_neg h]
    have h' : decide (a ≤ n) = false := decide_eq_false h
    rw [h']; rfl
end Go.Proofs.YtoffhlbdfhhhjaaDoor.Fr
namespace Go.Proofs.YtoffhlbdfhhhjaaDoor.Fr20
open Go
def GL (w : World) : Prop := w.cell? ⟨0, 0, none⟩ = some (.int .i64 9) ∧ w.cell? ⟨0, 1, none⟩ = some (.int .i64 0) ∧ w.cell? ⟨0, 2, none⟩ = some (.int .i64 45) ∧ w.cell? ⟨0, 3, none⟩ = some (.int .i64 0) ∧ w.cell? ⟨0, 4, none⟩ = some (.int .i64 0) ∧ w.cell? ⟨0, 5, none⟩ = some (.int .i64 0) ∧ w.cell? ⟨0, 6, none⟩ = some (.int .i64 0) ∧ w.cell? ⟨0, 7, none⟩ = some (.int .i64 0) ∧ w.cell? ⟨0, 8, none⟩ = some (.int .i64 1) ∧ w.cell? ⟨0, 9, none⟩ = some (.int .i64 1) ∧ w.cell? ⟨0, 10, none⟩ = some (.int .i64 12) ∧ w.cell? ⟨0, 11, none⟩ = some (.int .i64 0) ∧ w.cell? ⟨0, 12, none⟩ = some (.int .i64 1) ∧ w.cell? ⟨0, 13, none⟩ = some (.int .i64 1) ∧ w.cell? ⟨0, 14, none⟩ = some (.int .i64 0) ∧ w.cell? ⟨0, 15, none⟩ = some (.int .i64 1) ∧ w.cell? ⟨0, 16, none⟩ = some (.int .i64 0) ∧ w.cell? ⟨0, 17, none⟩ = some (.int .i64 2) ∧ w.cell? ⟨0, 18, none⟩ = some (.int .i64 4) ∧ w.cell? ⟨0, 19, none⟩ = some (.int .i64 0)
theorem GL.fr {w : World} (h : GL w) : Go.Proofs.YtoffhlbdfhhhjaaDoor.Fr.GL w := by
  obtain ⟨h0, h1, h2, h3, h4, h5, h6, h7, h8, h9, h10, h11, h12, h13, h14, h15, h16, h17, h18, h19⟩ := h
  intro i n hi
  have hlt : i < 20 := (List.getElem?_eq_some_iff.1 hi).1
  obtain rfl | rfl | rfl | rfl | rfl | rfl | rfl | rfl | rfl | rfl | rfl | rfl | rfl | rfl | rfl | rfl | rfl | rfl | rfl | rfl : i = 0 ∨ i = 1 ∨ i = 2 ∨ i = 3 ∨ i = 4 ∨ i = 5 ∨ i = 6 ∨ i = 7 ∨ i = 8 ∨ i = 9 ∨ i = 10 ∨ i = 11 ∨ i = 12 ∨ i = 13 ∨ i = 14 ∨ i = 15 ∨ i = 16 ∨ i = 17 ∨ i = 18 ∨ i = 19 := by omega
  · obtain rfl : 9 = n := Option.some.inj hi
    exact h0
  · obtain rfl : 0 = n := Option.some.inj hi
    exact h1
  · obtain rfl : 45 = n := Option.some.inj hi
    exact h2
  · obtain rfl : 0 = n := Option.some.inj hi
    exact h3
  · obtain rfl : 0 = n := Option.some.inj hi
    exact h4
  · obtain rfl : 0 = n := Option.some.inj hi
    exact h5
  · obtain rfl : 0 = n := Option.some.inj hi
    exact h6
  · obtain rfl : 0 = n := Option.some.inj hi
    exact h7
  · obtain rfl : 1 = n := Option.some.inj hi
    exact h8
  · obtain rfl : 1 = n := Option.some.inj hi
    exact h9
  · obtain rfl : 12 = n := Option.some.inj hi
    exact h10
  · obtain rfl : 0 = n := Option.some.inj hi
    exact h11
  · obtain rfl : 1 = n := Option.some.inj hi
    exact h12
  · obtain rfl : 1 = n := Option.some.inj hi
    exact h13
  · obtain rfl : 0 = n := Option.some.inj hi
    exact h14
  · obtain rfl : 1 = n := Option.some.inj hi
    exact h15
  · obtain rfl : 0 = n := Option.some.inj hi
    exact h16
  · obtain rfl : 2 = n := Option.some.inj hi
    exact h17
  · obtain rfl : 4 = n := Option.some.inj hi
    exact h18
  · obtain rfl : 0 = n := Option.some.inj hi
    exact h19
end Go.Proofs.YtoffhlbdfhhhjaaDoor.Fr20
