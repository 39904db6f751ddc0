/- The document's Write: numbers as bytes, the five bytes of a priority. No condition. -/
import Derived.Test.YtoffhlbdfhhhjaaDoorMFg8
import Derived.Test.YtoffhlbdfhhhjaaDoorMFrK
namespace Go.Proofs.YtoffhlbdfhhhjaaDoor.Fr
open Go Go.RowKit Go.Proofs.YtoffhlbdfhhhjaaDoorW.PrintWords Go.Proofs.YtoffhlbdfhhhjaaDoorW.PrintLast Go.Proofs.YtoffhlbdfhhhjaaDoorW.PrintMore Go.Proofs.YtoffhlbdfhhhjaaDoor.QL
set_option linter.unusedSimpArgs false
set_option linter.unusedVariables false
set_option maxHeartbeats 8000000
set_option maxRecDepth 100000
/-- Bytes as a kind of values. -/
def kB : Kd UInt8 := Kd.scalar (fun b => .int .u8 (b.toNat : Int)) (fun _ => rfl)
theorem kB_mk {W : World} {base : Nat} {ok : Nat → Prop} {c : Int} {x : UInt8} (h : c = (x.toNat : Int)) : kB.M W base ok x [.int .u8 c] := by
  show [Value.int .u8 c] = [Value.int .u8 (x.toNat : Int)]
  rw [h]
/-- A row that was added to: elder blocks but its own are as they were. -/
structure Ad (v v1 : Value) (w w1 : World) : Prop where
  os : w1.os = w.os
  tape : w1.tape = w.tape
  output : w1.output = w.output
  size : w.heap.size ≤ w1.heap.size
  block : ∀ k : Nat, k < w.heap.size → some k ≠ v.ownBlock → w1.heap[k]? = w.heap[k]?
  own : v1.ownBlock = v.ownBlock ∨ ∃ b, v1.ownBlock = some b ∧ w.heap.size ≤ b
theorem Ad.refl (v : Value) (w : World) : Ad v v w w := ⟨rfl, rfl, rfl, Nat.le_refl _, fun _ _ _ => rfl, .inl rfl⟩
theorem Ad.trans {v v1 v2 : Value} {w w1 w2 : World} (h : Ad v v1 w w1) (k : Ad v1 v2 w1 w2) : Ad v v2 w w2 := ⟨k.os.trans h.os, k.tape.trans h.tape, k.output.trans h.output, Nat.le_trans h.size k.size, fun i hi hn => (k.block i (Nat.lt_of_lt_of_le hi h.size) (by
    rcases h.own with e | ⟨b, e, hb⟩
    · rw [e]; exact hn
    · rw [e]; intro e2; injection e2 with e2; omega)).trans (h.block i hi hn), by
    rcases k.own with e | ⟨b, e, hb⟩
    · rw [e]; exact h.own
    · exact .inr ⟨b, e, Nat.le_trans h.size hb⟩⟩
theorem Ad.of {v v1 : Value} {w w1 : World} (hg : w.grownBy w1 v.ownBlock) (hat : v1.ownBlock = v.ownBlock ∨ ∃ b, v1.ownBlock = some b ∧ w.heap.size ≤ b) : Ad v v1 w w1 := ⟨hg.os, hg.tape, hg.output, hg.size, fun k hk hn => hg.block k hk hn, hat⟩
theorem Ad.low {v : Value} {w w1 : World} (h : Below w.heap.size w w1) : Ad v v w w1 := ⟨h.os, h.tape, h.output, h.size, fun k hk _ => h.block k hk, .inl rfl⟩
theorem Ad.at {v v1 : Value} {w w1 : World} {base g : Nat} {ok : Nat → Prop} {l : List UInt8} {f : Fr} {A : Option Addr} {c : Nat} (h : Ad v v1 w w1) (hr : Kd.R kB 5 w base ok v l) (hf : At w g f A c) : At w1 g f A c := (h.block g (blk_lt hf) (Kd.R_ne hr hf (by decide))).trans hf
theorem info5 : (Tryd.prog.info? 5).map (fun i => (i.zero, i.size, i.bytes)) = some (some (.int .u8 0), 1, 1) := by kernel_rfl
theorem putR_calls (base : Nat) (w0 : World) (v : Value) (l : List UInt8) (x : Int) (n : Nat) (w : World) (hR : Kd.R kB 5 w base (fun _ => True) v l) (hB : Below base w0 w) (hb : base ≤ w.heap.size) (hn : n ≤ 4) (hl : l.length + 8 ≤ 140737488355328) :
    Calls Tryd.prog 55 #[v, .int .i64 x, .int .i64 n] w fun e w' => ∃ v', e = .returned v' ∧ Kd.R kB 5 w' base (fun _ => True) v' (l ++ be n x) ∧ Below base w0 w' ∧ Ad v v' w w' := by
  have HR := Aside0.mk hR
  have HB := Aside0.mk hB
  have HBW := Aside0.mk hb
  have HL := Aside0.mk hl
  clear hR hB hb hl
  go_enter Tryd.func55, Tryd.ntmps55
  go_wp2_with fail
  go_loopw [0, 7] (fun u i w' => ∃ (m : Nat) (k : List UInt8), m ≤ n ∧ i = .int .i64 ((m : Int) - 1) ∧ Aside0 (Kd.R kB 5 w' base (fun _ => True) u k) ∧ Aside0 (k ++ be m x = l ++ be n x) ∧ Aside0 (k.length + m = l.length + n) ∧ Aside0 (Below base w0 w') ∧ Aside0 (base ≤ w'.heap.size) ∧ Aside0 (Ad v u w w')) (fun _ i _ => ((intOf i) + 1).toNat)
  case atStart => exact ⟨n, l, Nat.le_refl _, rfl, HR, ⟨rfl⟩, ⟨rfl⟩, HB, HBW, ⟨Ad.refl _ _⟩⟩
  case round =>
    obtain ⟨m, k, hm, rfl, HK, HE, HN, HB, HBW, HA⟩ := hrel
    obtain rfl | hm0 : m = 0 ∨ 1 ≤ m := by omega
    · go_wp2_with fail
      go_ret
      refine ⟨u0, rfl, ?_, HB.out, HA.out⟩
      have e := HE.out
      rw [show be 0 x = [] from rfl, List.append_nil] at e
      rw [← e]
      exact HK.out
    · obtain rfl | rfl | rfl | rfl : m = 1 ∨ m = 2 ∨ m = 3 ∨ m = 4 := by omega
      all_goals
        have HKL : Aside0 ((k.length + 1) * 1 ≤ 140737488355328) := ⟨by have := HN.out; have := HL.out; omega⟩
        go_wp2_with ((with_reducible refine gate_builtin (b := .append) (xs := #[.tmp 14, .tmp 20]) rfl ?_); at_builtin; refine Kd.R_append kB (w0 := w0) base rfl (.tmp 14) (.tmp 20) 61 5 _ 1 rfl Tryd.underlying61 info5 rfl (Nat.succ_pos 0) (Nat.succ_pos 0) u0 k _ _ (fun _ => True) (fun _ => False) rfl rfl (kB_mk (byte_val _).symm) (fun _ h => h.elim) (fun _ _ => trivial) HK.out HB.out HBW.out HKL.out ?_; intro v2 w9 ho hb hg hat; have HK9 := Aside0.mk ho; have HB9 := Aside0.mk hb; have HW9 := Aside0.mk (Nat.le_trans HBW.out hg.size); have HA9 := Aside0.mk (HA.out.trans (Ad.of hg hat)); clear ho hb hg hat)
        go_roundw
        case rel => first
          | exact ⟨0, _, by omega, rfl, HK9, ⟨by rw [← HE.out]; simp [be]⟩, ⟨by rw [← HN.out]; simp⟩, HB9, HW9, HA9⟩
          | exact ⟨1, _, by omega, rfl, HK9, ⟨by rw [← HE.out]; simp [be]⟩, ⟨by rw [← HN.out]; simp⟩, HB9, HW9, HA9⟩
          | exact ⟨2, _, by omega, rfl, HK9, ⟨by rw [← HE.out]; simp [be]⟩, ⟨by rw [← HN.out]; simp⟩, HB9, HW9, HA9⟩
          | exact ⟨3, _, by omega, rfl, HK9, ⟨by rw [← HE.out]; simp [be]⟩, ⟨by rw [← HN.out]; simp⟩, HB9, HW9, HA9⟩
        case measure => simp [intOf]
theorem weightR_calls (base : Nat) (w0 : World) (v : Value) (l : List UInt8) (f : Fr) (A : Option Addr) (c : Nat) (w : World) (hR : Kd.R kB 5 w base (fun _ => True) v l) (hB : Below base w0 w) (hb : base ≤ w.heap.size) (hd : 0 ≤ f.dep ∧ f.dep ≤ 2147483647) (hw : 1 ≤ f.wt ∧ f.wt ≤ 256) (hl : l.length + 16 ≤ 140737488355328) :
    Calls Tryd.prog 99 #[v, .agg (f.cells A c)] w fun e w' => ∃ v', e = .returned v' ∧ Kd.R kB 5 w' base (fun _ => True) v' (l ++ weight f) ∧ Below base w0 w' ∧ Ad v v' w w' := by
  unfold Fr.cells
  have HR := Aside0.mk hR
  have HB := Aside0.mk hB
  have HBW := Aside0.mk hb
  have HL := Aside0.mk hl
  have hx1 : wrap64 (f.dep + 2147483647) = f.dep + 2147483647 := by unfold wrap64; omega
  have hx2 : wrap64 (f.dep + 2147483647 + 1) = f.dep + 2147483648 := by unfold wrap64; omega
  have hx3 : wrap64 (f.wt - 1) = f.wt - 1 := by unfold wrap64; omega
  obtain ⟨x, hx⟩ : ∃ x, f.ex = x := ⟨_, rfl⟩
  have HWT : Aside0 (weight f = be 4 (f.dep + if x = true then 2147483648 else 0) ++ be 1 (f.wt - 1)) := ⟨by rw [← hx]; rfl⟩
  clear hR hB hb hl hd hw
  go_enter Tryd.func99, Tryd.ntmps99
  go_upto_region 1 with fail
  obtain ⟨W0, hW⟩ : ∃ W, w.alloc (.cells #[.int .i64 f.ty, .int .i64 f.fl, .int .i64 f.st, .string f.da, .int .i64 f.pad, .int .i64 f.dep, .bool x, .int .i64 f.wt, .int .i64 f.co, .int .i64 f.la, .slice A f.ps.length c] 24) = W := ⟨_, rfl⟩
  obtain ⟨g, hg⟩ : ∃ g, w.heap.size = g := ⟨_, rfl⟩
  have hb : Below w.heap.size w W0 := by rw [← hW]; exact below_alloc (Below.refl _ _) _
  have X0 : Aside0 (At W0 g f A c) := ⟨by rw [← hW, ← hg]; unfold At Fr.cells; rw [hx]; exact blk_new _ _⟩
  have R0 := Aside0.mk (Kd.R_below HR.out hb)
  have L0 := Aside0.mk (below_then HB.out HBW.out hb)
  have B0 := Aside0.mk (Nat.le_trans HBW.out hb.size)
  have A0_ : Aside0 (Ad v v w W0) := ⟨Ad.low hb⟩
  have z5 := X0.out.c5
  have z6 := X0.out.c6
  rw [hx] at z6
  have HX := Aside0.mk hx
  first
    | rw [hW, hg]
    | skip
  clear hW hg hb hx
  cases x
  all_goals go_upto_region 5 with (go_at_call 55; refine (putR_calls base w0 v l _ 4 _ R0.out L0.out B0.out (by decide) (by have := HL.out; omega)).mono ?_; rintro e w1 ⟨v1, rfl, hr, hb, ha⟩; have R1 := Aside0.mk hr; have L1 := Aside0.mk hb; have X1 := Aside0.mk (ha.at R0.out X0.out); have B1 := Aside0.mk (Nat.le_trans B0.out ha.size); have A1_ := Aside0.mk (A0_.out.trans ha); clear hr hb ha)
  all_goals
    have z7 := X1.out.c7
    have HLN : Aside0 ((l.length + 4 + 1) * 1 ≤ 140737488355328) := ⟨by have := HL.out; omega⟩
    go_wp2_with ((with_reducible refine gate_builtin (b := .append) (xs := #[.tmp 16, .tmp 21]) rfl ?_); at_builtin; refine Kd.R_append kB (w0 := w0) base rfl (.tmp 16) (.tmp 21) 61 5 _ 1 rfl Tryd.underlying61 info5 rfl (Nat.succ_pos 0) (Nat.succ_pos 0) v1 _ _ _ (fun _ => True) (fun _ => False) rfl rfl (kB_mk (byte_val _).symm) (fun _ h => h.elim) (fun _ _ => trivial) R1.out L1.out B1.out (by rw [List.length_append, be_length]; exact HLN.out) ?_; intro v2 w9 ho hb hg hat; have R9 := Aside0.mk ho; have L9 := Aside0.mk hb; have A9_ := Aside0.mk (A1_.out.trans (Ad.of hg hat)); clear ho hb hg hat)
    go_ret
    refine ⟨v2, rfl, ?_, L9.out, A9_.out⟩
    have h := R9.out
    have e1 : be 1 (f.wt - 1) = [UInt8.ofNat ((f.wt - 1) % 256).toNat] := by simp [be]
    first
      | (have e2 : weight f = be 4 (f.dep + 2147483648) ++ be 1 (f.wt - 1) := by first | exact HWT.out | simpa using HWT.out
         rw [e2, e1, ← List.append_assoc]
         exact h)
      | (have e2 : weight f = be 4 f.dep ++ be 1 (f.wt - 1) := by simpa using HWT.out
         rw [e2, e1, ← List.append_assoc]
         exact h)
end Go.Proofs.YtoffhlbdfhhhjaaDoor.Fr
