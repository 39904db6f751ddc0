/- A script's steps as a kind of values; how what waits grows. No condition. -/
import Derived.Test.YtedkjbdkokdgdaaMFirstB
namespace Go.Proofs.Ytedkjbdkokdgdaa.QL
open Go Go.RowKit Go.Proofs.YtedkjbdkokdgdaaW.PrintWords Go.Proofs.YtedkjbdkokdgdaaW.PrintLast
structure S37 where
  f0 : Int
  f1 : Int
  f2 : Int
  f3 : ByteArray
  f4 : Bool
  f5 : Int
  f6 : Int
  f7 : Int
  f8 : (List S50)
def z37 : S37 := ⟨0, 0, 0, ByteArray.empty, false, 0, 0, 0, []⟩
def k37 : Kd S37 := Kd.iso (Kd.pair (Kd.int .i64) (Kd.pair (Kd.int .i64) (Kd.pair (Kd.int .i64) (Kd.pair Kd.string (Kd.pair Kd.bool (Kd.pair (Kd.int .i64) (Kd.pair (Kd.int .i64) (Kd.pair (Kd.int .i64) (Kd.slice 50 k50))))))))) (fun x : S37 => (x.f0, x.f1, x.f2, x.f3, x.f4, x.f5, x.f6, x.f7, x.f8))
theorem k37_open {w : World} {x : S37} {cs : List Value} (h : k37.K w x cs) : ∃ A8 c8, cs = [.int .i64 x.f0, .int .i64 x.f1, .int .i64 x.f2, .string x.f3, .bool x.f4, .int .i64 x.f5, .int .i64 x.f6, .int .i64 x.f7, .slice A8 x.f8.length c8] ∧ x.f8.length ≤ c8 ∧ k50.C w A8 x.f8.length x.f8 := by
  obtain ⟨_, _, rfl, rfl, ⟨_, _, rfl, rfl, ⟨_, _, rfl, rfl, ⟨_, _, rfl, rfl, ⟨_, _, rfl, rfl, ⟨_, _, rfl, rfl, ⟨_, _, rfl, rfl, ⟨_, _, rfl, rfl, ⟨A8, c8, rfl, l8, g8⟩⟩⟩⟩⟩⟩⟩⟩⟩ := h
  exact ⟨A8, c8, rfl, l8, g8⟩
def rd_T37 (xs : List S37) (i : Int) : S37 := xs.getD i.toNat z37
theorem at_T37 {w : World} {A : Option Addr} {n : Nat} {xs : List S37} (h : Kd.C k37 w A n xs) (i : Int) (h0 : 0 ≤ i) (h1 : i < n) : ∃ ad A8 c8, A = some ad ∧ w.cell? (ad.add (i.toNat * 9)) = some (.int .i64 (rd_T37 xs i).f0) ∧ w.cell? ⟨(ad.add (i.toNat * 9)).block, (ad.add (i.toNat * 9)).off + 1, none⟩ = some (.int .i64 (rd_T37 xs i).f1) ∧ w.cell? ⟨(ad.add (i.toNat * 9)).block, (ad.add (i.toNat * 9)).off + 2, none⟩ = some (.int .i64 (rd_T37 xs i).f2) ∧ w.cell? ⟨(ad.add (i.toNat * 9)).block, (ad.add (i.toNat * 9)).off + 3, none⟩ = some (.string (rd_T37 xs i).f3) ∧ w.cell? ⟨(ad.add (i.toNat * 9)).block, (ad.add (i.toNat * 9)).off + 4, none⟩ = some (.bool (rd_T37 xs i).f4) ∧ w.cell? ⟨(ad.add (i.toNat * 9)).block, (ad.add (i.toNat * 9)).off + 5, none⟩ = some (.int .i64 (rd_T37 xs i).f5) ∧ w.cell? ⟨(ad.add (i.toNat * 9)).block, (ad.add (i.toNat * 9)).off + 6, none⟩ = some (.int .i64 (rd_T37 xs i).f6) ∧ w.cell? ⟨(ad.add (i.toNat * 9)).block, (ad.add (i.toNat * 9)).off + 7, none⟩ = some (.int .i64 (rd_T37 xs i).f7) ∧ w.cell? ⟨(ad.add (i.toNat * 9)).block, (ad.add (i.toNat * 9)).off + 8, none⟩ = some (.slice A8 (rd_T37 xs i).f8.length c8) ∧ (rd_T37 xs i).f8.length ≤ c8 ∧ k50.C w A8 (rd_T37 xs i).f8.length (rd_T37 xs i).f8 := by
  obtain ⟨ad, c, e, _, hK, hc0⟩ := Kd.C_get h z37 i h0 h1
  have hc : ∀ j u, c[j]? = some u → w.cell? (ad.add (i.toNat * 9 + j)) = some u := hc0
  obtain ⟨A8, c8, rfl, hl, hC⟩ := k37_open hK
  exact ⟨ad, A8, c8, e, hc 0 _ rfl, by rw [← add_field _ _ 1 (by omega)]; exact hc 1 _ rfl, by rw [← add_field _ _ 2 (by omega)]; exact hc 2 _ rfl, by rw [← add_field _ _ 3 (by omega)]; exact hc 3 _ rfl, by rw [← add_field _ _ 4 (by omega)]; exact hc 4 _ rfl, by rw [← add_field _ _ 5 (by omega)]; exact hc 5 _ rfl, by rw [← add_field _ _ 6 (by omega)]; exact hc 6 _ rfl, by rw [← add_field _ _ 7 (by omega)]; exact hc 7 _ rfl, by rw [← add_field _ _ 8 (by omega)]; exact hc 8 _ rfl, hl, hC⟩
end Go.Proofs.Ytedkjbdkokdgdaa.QL
namespace Go.Proofs.Ytedkjbdkokdgdaa.Sh
open Go Go.RowKit Go.Proofs.YtedkjbdkokdgdaaW.PrintWords Go.Proofs.YtedkjbdkokdgdaaW.PrintLast Go.Proofs.YtedkjbdkokdgdaaW.PrintMore Go.Proofs.Ytedkjbdkokdgdaa.QL
set_option linter.unusedSimpArgs false
set_option linter.unusedVariables false
set_option maxRecDepth 100000
theorem updM_size (m : Int → Qu) (id : Int) (q : Qu) (B : Nat) (h : ∀ z, (m z).t.size ≤ B) (hq : q.t.size ≤ B) : ∀ z, (updM m id q z).t.size ≤ B := by
  intro z
  unfold updM
  split
  · exact hq
  · exact h z
theorem putF_size (m : Int → Qu) (id : Int) (t : ByteArray) (e : Bool) (B C : Nat) (h : ∀ z, (m z).t.size ≤ B) (ht : B + t.size ≤ C) : ∀ z, ((putF m id t e).2 z).t.size ≤ C := by
  have h2 : ∀ z, (m z).t.size ≤ C := fun z => by have := h z; omega
  unfold putF
  split
  · exact h2
  split
  · exact h2
  · exact updM_size m id _ C h2 (by show ((m id).t ++ t).size ≤ C; rw [ByteArray.size_append]; have := h id; omega)
theorem nextF_size (m : Int → Qu) (id c s f : Int) (B : Nat) (h : ∀ z, (m z).t.size ≤ B) : ∀ z, ((nextF m id c s f).2 z).t.size ≤ B := by
  unfold nextF
  split
  · exact h
  split
  · exact h
  split
  · exact h
  · exact updM_size m id _ B h (by show ((m id).t.extract _ _).size ≤ B; rw [ByteArray.size_extract]; have := h id; omega)
section
variable {w w' : World} {p mb n : Nat} {m : Int → Qu}
theorem ShAt.kept {row : Option Nat} (h : ShAt w p mb n m) (hg : w.grownBy w' row) (h1 : some p ≠ row) (h2 : some mb ≠ row) : ShAt w' p mb n m := ⟨blk_grown h.blk hg h1, h.mq.kept hg h2⟩
theorem ShAt.mono {n' : Nat} (h : ShAt w p mb n m) (hn : n ≤ n') : ShAt w p mb n' m := ⟨h.blk, h.mq.mono hn⟩
end
theorem info50 : (Try.prog.info? 50).map (fun i => (i.zero, i.size, i.bytes)) = some (some (.agg #[.int .i64 0, .int .i64 0]), 2, 16) := by kernel_rfl
/-- Below what is new. -/
theorem below_grown_row {B : Nat} {w0 W W1 : World} {row : Option Nat} (h : Below B w0 W) (hg : W.grownBy W1 row) (hB : B ≤ W.heap.size) (hr : ∀ k, row = some k → B ≤ k) : Below B w0 W1 :=
  ⟨hg.os.trans h.os, hg.tape.trans h.tape, hg.output.trans h.output, Nat.le_trans h.size hg.size, fun k hk => (hg.block k (by omega) (by intro e; have := hr k e.symm; omega)).trans (h.block k hk)⟩
end Go.Proofs.Ytedkjbdkokdgdaa.Sh
