/- Frames as bytes: the numbers' bytes, what 'put' writes. The builder is one that the call has made; a number has at most four bytes. -/
import Derived.Test.YtoffhlbdfhhhjaaDoorShelf
import Derived.Test.YtoffhlbdfhhhjaaDoorQLx2
import Derived.Test.YtoffhlbdfhhhjaaDoorQLx3
import Derived.Test.YtoffhlbdfhhhjaaDoorQLx4
import Derived.StillTailTactics
namespace Go.Proofs.YtoffhlbdfhhhjaaDoor.Fr
open Go Go.RowKit Go.Proofs.YtoffhlbdfhhhjaaDoorW.PrintWords Go.Proofs.YtoffhlbdfhhhjaaDoorW.PrintLast Go.Proofs.YtoffhlbdfhhhjaaDoorW.PrintMore Go.Proofs.YtoffhlbdfhhhjaaDoor.QL
set_option linter.unusedSimpArgs false
set_option linter.unusedVariables false
set_option maxHeartbeats 4000000
set_option maxRecDepth 100000
/-- A number's last n bytes, the highest first. -/
def be : Nat → Int → List UInt8
  | 0, _ => []
  | n + 1, v => UInt8.ofNat (v / (256 : Int) ^ n % 256).toNat :: be n v
theorem be_length (n : Nat) (v : Int) : (be n v).length = n := by
  induction n with
  | zero => rfl
  | succ n ih => simp [be, ih]
theorem byte_val (x : Int) : ((UInt8.ofNat (x % 256).toNat).toNat : Int) = x % 256 := by
  rw [UInt8.toNat_ofNat']
  omega
/-- A builder of a call's own, above B, that holds l (it may have been read). -/
abbrev Bd (B b : Nat) (l : List UInt8) (w : World) : Prop := Lib.IsBuilderF 84 5 B b (Lib.byteCells l) w
/-- What a writer into the builder at b leaves as it was: what lies below B, and all that is neither the builder nor bytes. -/
def Wr (B b : Nat) (w w' : World) : Prop := Below B w w' ∧ Lib.OthersKept 5 (some b) w w'
theorem Wr.refl (B b : Nat) (w : World) : Wr B b w w := ⟨Below.refl _ _, Lib.OthersKept.refl _ _ _⟩
theorem Wr.trans {B b : Nat} {w w1 w2 : World} (h : Wr B b w w1) (k : Wr B b w1 w2) : Wr B b w w2 := ⟨h.1.trans k.1, h.2.trans k.2⟩
theorem Wr.size {B b : Nat} {w w1 : World} (h : Wr B b w w1) : w.heap.size ≤ w1.heap.size := h.1.size
theorem below_lo {B B' : Nat} {w w' : World} (h : Below B w w') (hb : B' ≤ B) : Below B' w w' := ⟨h.os, h.tape, h.output, h.size, fun k hk => h.block k (by omega)⟩
theorem Wr.alloc {B b : Nat} {w w1 : World} (h : Wr B b w w1) (hB : B ≤ w1.heap.size) (o : Obj) : Wr B b w (w1.alloc o) := ⟨below_then h.1 hB (below_alloc (Below.refl _ _) o), h.2.alloc o⟩
/-- A block of another type stays. -/
theorem Wr.blk {B b g t : Nat} {w w1 : World} {cs : Array Value} (h : Wr B b w w1) (hg : w.heap[g]? = some (.cells cs t (0, 0))) (ht : t ≠ 5) (hne : g ≠ b) : w1.heap[g]? = some (.cells cs t (0, 0)) :=
  h.2 g _ hg (by simpa using hne) (by intro c fz he; injection he with _ h1; exact ht h1)
theorem Bd.lt {B b : Nat} {l : List UInt8} {w : World} (h : Bd B b l w) : b < w.heap.size := h.elim (fun x => x.lt) (fun x => x.lt)
theorem Bd.ge {B b : Nat} {l : List UInt8} {w : World} (h : Bd B b l w) : B ≤ b := h.elim (fun x => x.1) (fun x => x.1)
theorem Bd.blk {B b : Nat} {l : List UInt8} {w : World} (h : Bd B b l w) : ∃ cs, w.heap[b]? = some (.cells cs 84 (0, 0)) := by
  rcases h with ⟨_, v, hb, _⟩ | ⟨_, v, hb, _⟩
  · exact ⟨_, hb⟩
  · exact ⟨_, hb⟩
theorem Bd.ne {B b g t : Nat} {l : List UInt8} {w : World} {cs : Array Value} (h : Bd B b l w) (hg : w.heap[g]? = some (.cells cs t (0, 0))) (ht : t ≠ 84) : g ≠ b := by
  rintro rfl
  obtain ⟨c2, h2⟩ := h.blk
  rw [hg] at h2
  injection h2 with h2
  injection h2 with _ h3
  exact ht h3
theorem Bd.alloc {B b : Nat} {l : List UInt8} {w : World} (h : Bd B b l w) (o : Obj) : Bd B b l (w.alloc o) := h.elim (fun x => .inl (x.alloc o)) (fun x => .inr (x.alloc o))
theorem Bd.below {B b : Nat} {l : List UInt8} {w w1 : World} (h : Bd B b l w) (hb : Below w.heap.size w w1) : Bd B b l w1 := by
  have f : ∀ p, Lib.BuilderAtF 84 5 B b p (Lib.byteCells l) w → Lib.BuilderAtF 84 5 B b p (Lib.byteCells l) w1 := by
    rintro p ⟨hB, v, hc, hown, hne⟩
    refine ⟨hB, v, blk_below hc hb, hown.kept (grown_of_below hb none) ?_, hne⟩
    cases hv : v.ownBlock <;> simp
  exact h.elim (fun x => .inl (f _ x)) (fun x => .inr (f _ x))
theorem Bd.new (w : World) : Bd w.heap.size w.heap.size [] (w.alloc (.cells #[.pointer none, .slice none 0 0] 84)) :=
  .inl ⟨Nat.le_refl _, _, blk_new w _, World.ownsRowF_nil _ _ _ _, by simp [Value.ownBlock]⟩
theorem byte_calls (B b : Nat) (l : List UInt8) (x : UInt8) (c : Int) (w : World) (h : Bd B b l w) (hx : c = (x.toNat : Int)) (hlen : l.length + 1 ≤ 140737488355328) (hBw : B ≤ w.heap.size) :
    Calls Tryd.prog 72 #[.pointer (some ⟨b, 0, none⟩), .int .u8 c] w fun e w' => e = .returned .nilIface ∧ Bd B b (l ++ [x]) w' ∧ Wr B b w w' := by
  subst hx
  refine (Tryd.Builder_WriteByte_k B b (Lib.byteCells l) (x.toNat : Int) w h (by rw [Lib.byteCells_length]; exact hlen) hBw).mono ?_
  rintro e w' ⟨rfl, h1, h2, h3⟩
  refine ⟨rfl, .inr ?_, h2, h3⟩
  rw [Lib.byteCells_append]
  exact h1
theorem text_calls (B b : Nat) (l : List UInt8) (s : ByteArray) (w : World) (h : Bd B b l w) (hlen : l.length + s.size ≤ 140737488355328) (hBw : B ≤ w.heap.size) :
    Calls Tryd.prog 49 #[.pointer (some ⟨b, 0, none⟩), .string s] w fun e w' => e = .returned (.tuple #[.int .i64 s.size, .nilIface]) ∧ Bd B b (l ++ s.data.toList) w' ∧ Wr B b w w' := by
  refine (Tryd.Builder_WriteString_k B b (Lib.byteCells l) s w h (by rw [Lib.byteCells_length]; exact hlen) hBw).mono ?_
  rintro e w' ⟨rfl, h1, h2, h3⟩
  refine ⟨rfl, .inr ?_, h2, h3⟩
  rw [Lib.byteCells_append, ← Lib.strCells_eq]
  exact h1
theorem len_calls (B b : Nat) (l : List UInt8) (w : World) (h : Bd B b l w) :
    Calls Tryd.prog 51 #[.pointer (some ⟨b, 0, none⟩)] w fun e w' => e = .returned (.int .i64 l.length) ∧ w' = w := by
  refine (Tryd.Builder_Len_f B b (Lib.byteCells l) w h).mono ?_
  rintro e w' ⟨rfl, rfl⟩
  exact ⟨by rw [Lib.byteCells_length], rfl⟩
theorem string_calls (B b : Nat) (l : List UInt8) (w : World) (h : Bd B b l w) (hBw : B ≤ w.heap.size) :
    Calls Tryd.prog 52 #[.pointer (some ⟨b, 0, none⟩)] w fun e w' => e = .returned (.string ⟨l.toArray⟩) ∧ Bd B b l w' ∧ Wr B b w w' := by
  refine (Tryd.Builder_String_any_k B b l w h hBw).mono ?_
  rintro e w' ⟨rfl, h1, h2, h3⟩
  exact ⟨rfl, h1, h2, h3⟩
theorem put_calls (B b : Nat) (l : List UInt8) (v : Int) (n : Nat) (w : World) (h : Bd B b l w) (hn : n ≤ 4) (hlen : l.length + 8 ≤ 140737488355328) (hBw : B ≤ w.heap.size) :
    Calls Tryd.prog 47 #[.pointer (some ⟨b, 0, none⟩), .int .i64 v, .int .i64 n] w fun e w' => e = .returned (.tuple #[]) ∧ Bd B b (l ++ be n v) w' ∧ Wr B b w w' := by
  have H := Aside0.mk h
  have HBW := Aside0.mk hBw
  have HL := Aside0.mk hlen
  clear h hBw hlen
  go_enter Tryd.func47, Tryd.ntmps47
  go_wp2_with fail
  go_loopw [6] (fun i w' => ∃ (m : Nat) (k : List UInt8), m ≤ n ∧ i = .int .i64 ((m : Int) - 1) ∧ Aside0 (Bd B b k w') ∧ Aside0 (k ++ be m v = l ++ be n v) ∧ Aside0 (k.length + m = l.length + n) ∧ Aside0 (Wr B b w w')) (fun i _ => ((intOf i) + 1).toNat)
  case atStart => exact ⟨n, l, Nat.le_refl _, rfl, H, ⟨rfl⟩, ⟨rfl⟩, ⟨Wr.refl _ _ _⟩⟩
  case round =>
    obtain ⟨m, k, hm, rfl, HK, HE, HN, HB⟩ := hrel
    obtain rfl | hm0 : m = 0 ∨ 1 ≤ m := by omega
    · go_wp2_with fail
      go_end0
      refine ⟨rfl, ?_, HB.out⟩
      have e := HE.out
      rw [show be 0 v = [] from rfl, List.append_nil] at e
      rw [← e]
      exact HK.out
    · obtain rfl | rfl | rfl | rfl : m = 1 ∨ m = 2 ∨ m = 3 ∨ m = 4 := by omega
      all_goals
        have hb : B ≤ wr.heap.size := Nat.le_trans HBW.out HB.out.size
        have HBR := Aside0.mk hb
        clear hb
        go_wp2_with (go_at_call 72; refine (byte_calls B b k _ _ _ HK.out (byte_val _).symm (by have := HN.out; have := HL.out; omega) HBR.out).mono ?_; rintro e w8 ⟨rfl, h1, h2⟩; have HK8 := Aside0.mk h1; have HB8 := Aside0.mk (HB.out.trans h2); clear h1 h2)
        go_roundw
        case rel => first
          | exact ⟨0, _, by omega, rfl, HK8, ⟨by rw [← HE.out]; simp [be]⟩, ⟨by rw [← HN.out]; simp⟩, HB8⟩
          | exact ⟨1, _, by omega, rfl, HK8, ⟨by rw [← HE.out]; simp [be]⟩, ⟨by rw [← HN.out]; simp⟩, HB8⟩
          | exact ⟨2, _, by omega, rfl, HK8, ⟨by rw [← HE.out]; simp [be]⟩, ⟨by rw [← HN.out]; simp⟩, HB8⟩
          | exact ⟨3, _, by omega, rfl, HK8, ⟨by rw [← HE.out]; simp [be]⟩, ⟨by rw [← HN.out]; simp⟩, HB8⟩
        case measure => simp [intOf]
end Go.Proofs.YtoffhlbdfhhhjaaDoor.Fr
